import JvmDerived
import JvmDerived.Pilot.@@N@@Statement
import JvmDerived.Pilot.@@N@@Code
set_option linter.unusedVariables false
set_option linter.unusedSimpArgs false
@@BLOCK:NumsL.lean.txt@@
namespace Jvm.Pilot.@@N@@
open Jvm Jvm.ClassFile Sem Op Lib Jvm.Free Jvm.Stand Jvm.LawKit Jvm.RoadKit Bundle Jvm.Pilot.@@N@@.Jvm.D
/-- Java's x >>> y on longs -/
def own_uL (x : Int64) (y : Int32) : Int64 := (x.toUInt64 >>> (y &&& 63).toInt64.toUInt64).toInt64
section Own
variable {p : Program} {l : Launch} {e : Env} {R : Room} {s : State} {m : MethodId} {args : Array Value} {below : List Frame} {meth : Method} {c : Code} {T : State} {locs : List Loc} {cells slots : Nat}
variable {ck sk : Nat} {Q : Option Value → Heap → List Loc → Prop}
/-- the run from u comes to the method's return, and Q holds there -/
def oF (p : Program) (e : Env) (below : List Frame) (s : State) (ck sk : Nat) (Q : Option Value → Heap → List Loc → Prop) (u : State) : Prop :=
  ∃ t o, Steps p.tables e below u t ∧ t.status = .running ∧ Ended t below o ∧ ∃ v L, o = .returned v ∧ Q v t.heap L ∧ FrameEnd s o t L ck sk
theorem oS {u u' : State} (h : ∀ t, Steps p.tables e below u' t → Steps p.tables e below u t) (k : oF p e below s ck sk Q u') : oF p e below s ck sk Q u := by
  obtain ⟨t, o, h1, r⟩ := k
  exact ⟨t, o, h t h1, r⟩
theorem oC {u : State} (X : Stand p l e R s m args below meth c T locs cells slots) {h : Heap} (E : T.heap = h) {f : JFrame}
    (rest : ∀ Tc, Stand p l e R s m args below meth c Tc locs cells slots → Tc.heap = h → oF p e below s ck sk Q (Tc.setTop f))
    (k : (∀ Tc, Stand p l e R s m args below meth c Tc locs cells slots → Tc.heap = h → oF p e below s ck sk Q (Tc.setTop f)) → oF p e below s ck sk Q u) : oF p e below s ck sk Q u := k rest
theorem own_ret (X : Stand p l e R s m args below meth c T locs cells slots) (hlk : meth.locks = false) {v : Option Value} (hv : meth.sig.returnType = none → v = none) {g : JFrame}
    (st : ∀ fs, (∀ (f : JFrame) (acts : List Action), f.method = m → f.locked = none → f.entered = [] → (doReturn e (T.setTop f) acts v).1 = T.setFrames fs) → Steps p.tables e below (T.setTop g) (T.setFrames fs))
    (hQ : Q v T.heap locs) (hc : cells ≤ ck) (hs : slots ≤ sk) : oF p e below s ck sk Q (T.setTop g) := by
  obtain ⟨fs, hr, hrun, hended, hW, hsame⟩ := X.leave (v := v) hv hlk
  exact ⟨_, _, st fs hr, hrun, hended, v, locs, rfl, hQ, ⟨_, rfl⟩, hW, hsame.mono hc hs⟩
theorem own_retI (X : Stand p l e R s m args below meth c T locs cells slots) (hx : p.tables.exec = Jvm.exec) (hlk : meth.locks = false) {pc : Nat} {Ls : Array Slot} {z : Int32} {rest : List Value} (hret : meth.sig.returnType = some .int)
    (hd : decode c.code pc = .ok (.ireturn, 1)) (hQ : Q (some (.int z)) T.heap locs) (hc : cells ≤ ck) (hs : slots ≤ sk) : oF p e below s ck sk Q (T.setTop (mkF m pc Ls (.int z :: rest))) :=
  own_ret X hlk (fun h => by rw [hret] at h; cases h) (fun fs hl => retOut X hx hret rfl (Or.inl ⟨rfl, Or.inl rfl, _, rfl⟩) hd hl) hQ hc hs
theorem own_retJ (X : Stand p l e R s m args below meth c T locs cells slots) (hx : p.tables.exec = Jvm.exec) (hlk : meth.locks = false) {pc : Nat} {Ls : Array Slot} {z : Int64} {rest : List Value} (hret : meth.sig.returnType = some .long)
    (hd : decode c.code pc = .ok (.lreturn, 1)) (hQ : Q (some (.long z)) T.heap locs) (hc : cells ≤ ck) (hs : slots ≤ sk) : oF p e below s ck sk Q (T.setTop (mkF m pc Ls (.long z :: rest))) :=
  own_ret X hlk (fun h => by rw [hret] at h; cases h) (fun fs hl => retOut X hx hret rfl (Or.inr (Or.inl ⟨rfl, rfl, _, rfl⟩)) hd hl) hQ hc hs
theorem own_retD (X : Stand p l e R s m args below meth c T locs cells slots) (hx : p.tables.exec = Jvm.exec) (hlk : meth.locks = false) {pc : Nat} {Ls : Array Slot} {z : UInt64} {rest : List Value} (hret : meth.sig.returnType = some .double)
    (hd : decode c.code pc = .ok (.dreturn, 1)) (hQ : Q (some (.double z)) T.heap locs) (hc : cells ≤ ck) (hs : slots ≤ sk) : oF p e below s ck sk Q (T.setTop (mkF m pc Ls (.double z :: rest))) :=
  own_ret X hlk (fun h => by rw [hret] at h; cases h) (fun fs hl => retOut X hx hret rfl (Or.inr (Or.inr (Or.inl ⟨rfl, rfl, _, rfl⟩))) hd hl) hQ hc hs
theorem own_retA (X : Stand p l e R s m args below meth c T locs cells slots) (hx : p.tables.exec = Jvm.exec) (hlk : meth.locks = false) {pc : Nat} {Ls : Array Slot} {w : Value} {t : FieldType} {rest : List Value} (hret : meth.sig.returnType = some t) (ht : t.isReference = true) (hr : w.isRef = true)
    (hd : decode c.code pc = .ok (.areturn, 1)) (hQ : Q (some w) T.heap locs) (hc : cells ≤ ck) (hs : slots ≤ sk) : oF p e below s ck sk Q (T.setTop (mkF m pc Ls (w :: rest))) :=
  own_ret X hlk (fun h => by rw [hret] at h; cases h) (fun fs hl => retOut X hx hret (by cases t <;> first | (cases ht; done) | (cases w <;> first | rfl | (cases hr; done))) (Or.inr (Or.inr (Or.inr (Or.inr ⟨rfl, ht, hr⟩)))) hd hl) hQ hc hs
theorem own_retN (X : Stand p l e R s m args below meth c T locs cells slots) (hx : p.tables.exec = Jvm.exec) (hlk : meth.locks = false) {pc : Nat} {Ls : Array Slot} {z : Int32} {t : FieldType} {rest : List Value} (hret : meth.sig.returnType = some t) (ht : t = .boolean ∨ t = .byte ∨ t = .char ∨ t = .short)
    (hd : decode c.code pc = .ok (.ireturn, 1)) (hQ : Q (some (.int (nar t z))) T.heap locs) (hc : cells ≤ ck) (hs : slots ≤ sk) : oF p e below s ck sk Q (T.setTop (mkF m pc Ls (.int z :: rest))) :=
  own_ret X hlk (fun h => by rw [hret] at h; cases h) (fun fs hl => retN X hx hret ht hd hl) hQ hc hs
theorem own_ret0 (X : Stand p l e R s m args below meth c T locs cells slots) (hx : p.tables.exec = Jvm.exec) (hlk : meth.locks = false) {pc : Nat} {Ls : Array Slot} (hret : meth.sig.returnType = none)
    (hd : decode c.code pc = .ok (.return_, 1)) (hQ : Q none T.heap locs) (hc : cells ≤ ck) (hs : slots ≤ sk) : oF p e below s ck sk Q (T.setTop (mkF m pc Ls [])) :=
  own_ret X hlk (fun _ => rfl) (fun fs hl => X.returnOut hx hret hd hl) hQ hc hs
/-- a body's contract: called with as' on the heap h it returns, and Q says what it leaves -/
def own_Con (l : Launch) (Z : State) (ws : List Jvm.Cond) (y : MethodName) (bytes : ByteArray) (maxL : Nat) (rt : Option FieldType) (rm : Room) (as' : Array Value) (h : Heap) (Q : Option Value → Heap → List Loc → Prop) : Prop :=
  MetFree l y (head1 (Jvm.Cond.code y bytes maxL rt :: ws) rm) (fun a U => a = as' ∧ Z.Warmed39 U.vm ∧ U.heap = h) (fun _ _ _ _ _ => True) (fun _ U o U' => ∃ v L, o = .returned v ∧ Q v U'.heap L ∧ FrameEnd U o U' L rm.cells rm.slots)
/-- it returns r, and the heap is as it was -/
def own_Q1 (r : Option Value) (h : Heap) : Option Value → Heap → List Loc → Prop := fun v h' L => v = r ∧ h' = h ∧ L = []
variable {Z : State} {a0 : Array Value} {h h' : Heap}
theorem own_body {ws : List Jvm.Cond} {y : MethodName} {bytes : ByteArray} {maxL : Nat} {rt : Option FieldType} {rm : Room} {as' : Array Value} (hpn : plainFor y = true)
    (H : ∀ (p : Program) (e : Env) (s : State) (m : MethodId) (below : List Frame) (meth : Method) (c : Code) (s₁ : State), Stand p l e rm s m as' below meth c s₁ [] 0 0 → p.tables.exec = Jvm.exec → c.code = bytes → c.maxLocals = maxL → meth.sig.returnType = rt → meth.locks = false → s.vm.findClass y.cls = some m.cls → meth.name = y.name → Z.Warmed39 s.vm → s₁.heap = h →
      oF p e below s rm.cells rm.slots Q (s₁.setTop (entryFrame m as' maxL))) : own_Con l Z ws y bytes maxL rt rm as' h Q := by
  refine MetFree.of_bodySF hpn hisR ?_
  intro p e s m args below meth c s₁ Bd hml0 hP hK
  obtain ⟨rfl, hZ, hh⟩ := hP
  exact H p e s m below meth c s₁ (Stand.of_body Bd) Bd.exec Bd.bytes hml0 Bd.returns (BodyLoose.notSynchronized Bd) (findClass_of_methodNamed Bd.named) (name_of_methodNamed Bd.named Bd.method).1 hZ (by rw [← hh, Bd.state]; rfl)
theorem own_callS (X : Stand p l e R s m args below meth c T locs cells slots) (hx : p.tables.exec = Jvm.exec) (hZ : Z.Warmed39 s.vm) {own : String} {index : Nat} {y : MethodName} {bytes : ByteArray} {maxL : Nat} {rt : Option FieldType} (hown : s.vm.findClass own = some m.cls)
    (w1 : (Jvm.Cond.methodLink own index y).before a0 Z = true) (w2 : (Jvm.Cond.static y).before a0 Z = true) (w4 : (Jvm.Cond.code y bytes maxL rt).before a0 Z = true) (w3 : (Jvm.Cond.initialized y.cls).before a0 Z = true) (hy : y.cls ≠ "java/lang/invoke/MethodHandle" ∧ y.cls ≠ "java/lang/invoke/VarHandle")
    (eT : T.heap = h) {rm : Room} {W : Nat} {argsL rest : List Value} (K : own_Con l Z [] y bytes maxL rt rm argsL.toArray h Q) (hf : rm.frames + 1 ≤ R.frames) (hl : W + (maxL + 11) + rm.locals ≤ R.locals)
    {g : JFrame} (hg : g.method = m) (hsize : g.locals.size = c.maxLocals) (hlen : ∀ sig, parseMethodDescriptor y.desc = some sig → argsL.length = sig.parameters.length)
    (hstack : g.stack = argsL.reverse ++ rest) (hW : 2 * g.monitorRoom + (rest.map fun v => v.category).sum ≤ W) (hdg : decode c.code g.pc = .ok (.invokestatic index, 3)) (hc : cells + rm.cells ≤ R.cells) (hs : slots + rm.slots ≤ R.slots) :
    ∃ (v : Option Value) (T' : State) (L : List Loc), Stand p l e R s m args below meth c T' (locs ++ L) (cells + rm.cells) (slots + rm.slots) ∧ Q v T'.heap L ∧
      ∀ target, Steps p.tables e below (T'.setTop { g with pc := g.pc + 3, stack := v.toList ++ rest }) target → Steps p.tables e below (T.setTop g) target := by
  obtain ⟨v, _, ⟨T', L', k', n'⟩, -, X', ⟨L, hQ, q1, q2, q3⟩, st⟩ := Jvm.LawKit.callS X hx hown (mvT hZ w1) (mvT hZ w2) (mvT hZ w3) (mvT hZ w4) hy (backOf (W := W) K hZ w4 w3 hf hl) hg hsize hlen hstack hW hdg (fun _ _ => ⟨rfl, eT, hc, hs⟩)
  dsimp only [Pt.U, Pt.locs, Pt.cells, Pt.slots] at X' q1 q2 q3 st hQ
  subst q1 q2 q3
  exact ⟨v, T', L, X', hQ, st⟩
theorem own_callSP (X : Stand p l e R s m args below meth c T locs cells slots) (hx : p.tables.exec = Jvm.exec) (hZ : Z.Warmed39 s.vm) {own : String} {index : Nat} {y : MethodName} {bytes : ByteArray} {maxL : Nat} {rt : Option FieldType} (hown : s.vm.findClass own = some m.cls)
    (w1 : (Jvm.Cond.methodLink own index y).before a0 Z = true) (w2 : (Jvm.Cond.static y).before a0 Z = true) (w4 : (Jvm.Cond.code y bytes maxL rt).before a0 Z = true) (w3 : (Jvm.Cond.initialized y.cls).before a0 Z = true) (hy : y.cls ≠ "java/lang/invoke/MethodHandle" ∧ y.cls ≠ "java/lang/invoke/VarHandle")
    (eT : T.heap = h) {rf rl : Nat} {W : Nat} {argsL rest : List Value} {r : Value} (K : own_Con l Z [] y bytes maxL rt { frames := rf, cells := 0, slots := 0, locals := rl } argsL.toArray h (own_Q1 (some r) h)) (hf : rf + 1 ≤ R.frames) (hl : W + (maxL + 11) + rl ≤ R.locals)
    {g : JFrame} (hg : g.method = m) (hsize : g.locals.size = c.maxLocals) (hlen : ∀ sig, parseMethodDescriptor y.desc = some sig → argsL.length = sig.parameters.length)
    (hstack : g.stack = argsL.reverse ++ rest) (hW : 2 * g.monitorRoom + (rest.map fun v => v.category).sum ≤ W) (hdg : decode c.code g.pc = .ok (.invokestatic index, 3)) (hc : cells ≤ R.cells) (hs : slots ≤ R.slots) :
    ∃ T' : State, Stand p l e R s m args below meth c T' locs cells slots ∧ T'.heap = h ∧
      ∀ target, Steps p.tables e below (T'.setTop { g with pc := g.pc + 3, stack := r :: rest }) target → Steps p.tables e below (T.setTop g) target := by
  obtain ⟨v, T', L, X', ⟨rfl, hh, rfl⟩, st⟩ := own_callS X hx hZ hown w1 w2 w4 w3 hy eT (W := W) K hf hl hg hsize hlen hstack hW hdg hc hs
  rw [List.append_nil] at X'
  exact ⟨T', X', hh, st⟩
theorem own_callI (X : Stand p l e R s m args below meth c T locs cells slots) (hx : p.tables.exec = Jvm.exec) (hZ : Z.Warmed39 s.vm) {own : String} {index : Nat} {y : MethodName} (hy1 : y.name = "<init>") {bytes : ByteArray} {maxL : Nat} (hown : s.vm.findClass own = some m.cls)
    (w1 : (Jvm.Cond.methodLink own index y).before a0 Z = true) (w2 : (Jvm.Cond.instanceMethod y).before a0 Z = true) (w4 : (Jvm.Cond.code y bytes maxL none).before a0 Z = true) (w3 : (Jvm.Cond.initialized y.cls).before a0 Z = true) (hy : y.cls ≠ "java/lang/invoke/MethodHandle" ∧ y.cls ≠ "java/lang/invoke/VarHandle")
    (eT : T.heap = h) {rm : Room} {W : Nat} {a : Addr} {argsL rest : List Value} (K : own_Con l Z [] y bytes maxL none rm (.ref a :: argsL).toArray h Q) (hf : rm.frames + 1 ≤ R.frames) (hl : W + (maxL + 11) + rm.locals ≤ R.locals)
    {g : JFrame} (hg : g.method = m) (hsize : g.locals.size = c.maxLocals) (hlen : ∀ sig, parseMethodDescriptor y.desc = some sig → argsL.length = sig.parameters.length)
    (hstack : g.stack = argsL.reverse ++ .ref a :: rest) (hW : 2 * g.monitorRoom + (rest.map fun v => v.category).sum ≤ W) (hdg : decode c.code g.pc = .ok (.invokespecial index, 3)) (hc : cells + rm.cells ≤ R.cells) (hs : slots + rm.slots ≤ R.slots) :
    ∃ (v : Option Value) (T' : State) (L : List Loc), Stand p l e R s m args below meth c T' (locs ++ L) (cells + rm.cells) (slots + rm.slots) ∧ Q v T'.heap L ∧
      ∀ target, Steps p.tables e below (T'.setTop { g with pc := g.pc + 3, stack := v.toList ++ rest }) target → Steps p.tables e below (T.setTop g) target := by
  obtain ⟨v, _, ⟨T', L', k', n'⟩, -, X', ⟨L, hQ, q1, q2, q3⟩, st⟩ := X.specialBack hx hy1 hown (mvT hZ w1) (mvT hZ w2) (mvT hZ w4) hy (backOf (W := W) K hZ w4 w3 hf hl) hg hsize (Steps.refl _) (a := a) hlen hstack hW hdg (fun _ _ => ⟨rfl, eT, hc, hs⟩)
  dsimp only [Pt.U, Pt.locs, Pt.cells, Pt.slots] at X' q1 q2 q3 st hQ
  subst q1 q2 q3
  exact ⟨v, T', L, X', hQ, fun t k => st.trans k⟩
theorem own_callIP (X : Stand p l e R s m args below meth c T locs cells slots) (hx : p.tables.exec = Jvm.exec) (hZ : Z.Warmed39 s.vm) {own : String} {index : Nat} {y : MethodName} (hy1 : y.name = "<init>") {bytes : ByteArray} {maxL : Nat} (hown : s.vm.findClass own = some m.cls)
    (w1 : (Jvm.Cond.methodLink own index y).before a0 Z = true) (w2 : (Jvm.Cond.instanceMethod y).before a0 Z = true) (w4 : (Jvm.Cond.code y bytes maxL none).before a0 Z = true) (w3 : (Jvm.Cond.initialized y.cls).before a0 Z = true) (hy : y.cls ≠ "java/lang/invoke/MethodHandle" ∧ y.cls ≠ "java/lang/invoke/VarHandle")
    (eT : T.heap = h) {rf rl : Nat} {W : Nat} {a : Addr} {argsL rest : List Value} (K : own_Con l Z [] y bytes maxL none { frames := rf, cells := 0, slots := 0, locals := rl } (.ref a :: argsL).toArray h (own_Q1 none h)) (hf : rf + 1 ≤ R.frames) (hl : W + (maxL + 11) + rl ≤ R.locals)
    {g : JFrame} (hg : g.method = m) (hsize : g.locals.size = c.maxLocals) (hlen : ∀ sig, parseMethodDescriptor y.desc = some sig → argsL.length = sig.parameters.length)
    (hstack : g.stack = argsL.reverse ++ .ref a :: rest) (hW : 2 * g.monitorRoom + (rest.map fun v => v.category).sum ≤ W) (hdg : decode c.code g.pc = .ok (.invokespecial index, 3)) (hc : cells ≤ R.cells) (hs : slots ≤ R.slots) :
    ∃ T' : State, Stand p l e R s m args below meth c T' locs cells slots ∧ T'.heap = h ∧
      ∀ target, Steps p.tables e below (T'.setTop { g with pc := g.pc + 3, stack := rest }) target → Steps p.tables e below (T.setTop g) target := by
  obtain ⟨v, T', L, X', ⟨rfl, hh, rfl⟩, st⟩ := own_callI X hx hZ hy1 hown w1 w2 w4 w3 hy eT (W := W) K hf hl hg hsize hlen hstack hW hdg hc hs
  rw [List.append_nil] at X'
  exact ⟨T', X', hh, st⟩
theorem own_callV (X : Stand p l e R s m args below meth c T locs cells slots) (hx : p.tables.exec = Jvm.exec) (hZ : Z.Warmed39 s.vm) {own C : String} {index : Nat} {y z : MethodName} {bytes : ByteArray} {maxL : Nat} {rt : Option FieldType} (hown : s.vm.findClass own = some m.cls)
    (w1 : (Jvm.Cond.methodLink own index y).before a0 Z = true) (w2 : (Jvm.Cond.declares y).before a0 Z = true) (hnf : NotFace s y) (ws : (Jvm.Cond.selects C y z).before a0 Z = true) (wi : (Jvm.Cond.instanceMethod z).before a0 Z = true) (hy : y.cls ≠ "java/lang/invoke/MethodHandle" ∧ y.cls ≠ "java/lang/invoke/VarHandle")
    (eT : T.heap = h) {b : Addr} (E : Exa Z h b C) {rm : Room} {W : Nat} {argsL rest : List Value} (K : own_Con l Z [] z bytes maxL rt rm (.ref b :: argsL).toArray h Q) (w4 : (Jvm.Cond.code z bytes maxL rt).before a0 Z = true) (w3 : (Jvm.Cond.initialized z.cls).before a0 Z = true) (hf : rm.frames + 1 ≤ R.frames) (hl : W + (maxL + 11) + rm.locals ≤ R.locals)
    {g : JFrame} (hg : g.method = m) (hsize : g.locals.size = c.maxLocals) (hlen : ∀ sig, parseMethodDescriptor y.desc = some sig → argsL.length = sig.parameters.length)
    (hstack : g.stack = argsL.reverse ++ .ref b :: rest) (hW : 2 * g.monitorRoom + (rest.map fun v => v.category).sum ≤ W) (hdg : decode c.code g.pc = .ok (.invokevirtual index, 3)) (hc : cells + rm.cells ≤ R.cells) (hs : slots + rm.slots ≤ R.slots) :
    ∃ (v : Option Value) (T' : State) (L : List Loc), Stand p l e R s m args below meth c T' (locs ++ L) (cells + rm.cells) (slots + rm.slots) ∧ Q v T'.heap L ∧
      ∀ target, Steps p.tables e below (T'.setTop { g with pc := g.pc + 3, stack := v.toList ++ rest }) target → Steps p.tables e below (T.setTop g) target := by
  obtain ⟨cq, kq, qa, qb, qc⟩ := isOf hZ eT E
  obtain ⟨v, _, ⟨T', L', k', n'⟩, -, X', ⟨L, hQ, q1, q2, q3⟩, st⟩ := X.virtualBack hx hown (mvT hZ w1) (mvT hZ w2) hnf (mvT hZ ws) (mvT hZ wi) hy (backOf (W := W) K hZ w4 w3 hf hl) qa qc hg hsize (Steps.refl _) hlen hstack hW hdg (fun _ _ => ⟨rfl, eT, hc, hs⟩)
  dsimp only [Pt.U, Pt.locs, Pt.cells, Pt.slots] at X' q1 q2 q3 st hQ
  subst q1 q2 q3
  exact ⟨v, T', L, X', hQ, fun t k => st.trans k⟩
theorem own_callVP (X : Stand p l e R s m args below meth c T locs cells slots) (hx : p.tables.exec = Jvm.exec) (hZ : Z.Warmed39 s.vm) {own C : String} {index : Nat} {y z : MethodName} {bytes : ByteArray} {maxL : Nat} {rt : Option FieldType} (hown : s.vm.findClass own = some m.cls)
    (w1 : (Jvm.Cond.methodLink own index y).before a0 Z = true) (w2 : (Jvm.Cond.declares y).before a0 Z = true) (hnf : NotFace s y) (ws : (Jvm.Cond.selects C y z).before a0 Z = true) (wi : (Jvm.Cond.instanceMethod z).before a0 Z = true) (hy : y.cls ≠ "java/lang/invoke/MethodHandle" ∧ y.cls ≠ "java/lang/invoke/VarHandle")
    (eT : T.heap = h) {b : Addr} (E : Exa Z h b C) {rf rl : Nat} {W : Nat} {argsL rest : List Value} {r : Value} (K : own_Con l Z [] z bytes maxL rt { frames := rf, cells := 0, slots := 0, locals := rl } (.ref b :: argsL).toArray h (own_Q1 (some r) h)) (w4 : (Jvm.Cond.code z bytes maxL rt).before a0 Z = true) (w3 : (Jvm.Cond.initialized z.cls).before a0 Z = true) (hf : rf + 1 ≤ R.frames) (hl : W + (maxL + 11) + rl ≤ R.locals)
    {g : JFrame} (hg : g.method = m) (hsize : g.locals.size = c.maxLocals) (hlen : ∀ sig, parseMethodDescriptor y.desc = some sig → argsL.length = sig.parameters.length)
    (hstack : g.stack = argsL.reverse ++ .ref b :: rest) (hW : 2 * g.monitorRoom + (rest.map fun v => v.category).sum ≤ W) (hdg : decode c.code g.pc = .ok (.invokevirtual index, 3)) (hc : cells ≤ R.cells) (hs : slots ≤ R.slots) :
    ∃ T' : State, Stand p l e R s m args below meth c T' locs cells slots ∧ T'.heap = h ∧
      ∀ target, Steps p.tables e below (T'.setTop { g with pc := g.pc + 3, stack := r :: rest }) target → Steps p.tables e below (T.setTop g) target := by
  obtain ⟨v, T', L, X', ⟨rfl, hh, rfl⟩, st⟩ := own_callV X hx hZ hown w1 w2 hnf ws wi hy eT E (W := W) K w4 w3 hf hl hg hsize hlen hstack hW hdg hc hs
  rw [List.append_nil] at X'
  exact ⟨T', X', hh, st⟩
theorem own_cl_eq {x y : Int64} (h : x = y) : Jvm.Free.XT.cmpL x y = 0 := by
  subst h; unfold Jvm.Free.XT.cmpL
  rw [if_neg (by rw [Int64.lt_iff_toInt_lt]; omega), if_pos rfl]
theorem own_cl_eq_n {x y : Int64} (h : ¬ x = y) : ¬ Jvm.Free.XT.cmpL x y = 0 := by
  unfold Jvm.Free.XT.cmpL
  by_cases h1 : y < x
  · rw [if_pos h1]; decide
  · rw [if_neg h1, if_neg h]; decide
theorem own_cl_gt {x y : Int64} (h : y < x) : (0 : Int32) < Jvm.Free.XT.cmpL x y := by
  unfold Jvm.Free.XT.cmpL; rw [if_pos h]; decide
theorem own_cl_gt_n {x y : Int64} (h : ¬ y < x) : ¬ (0 : Int32) < Jvm.Free.XT.cmpL x y := by
  unfold Jvm.Free.XT.cmpL; rw [if_neg h]
  by_cases h1 : x = y
  · rw [if_pos h1]; decide
  · rw [if_neg h1]; decide
theorem own_cl_lt {x y : Int64} (h : x < y) : Jvm.Free.XT.cmpL x y < (0 : Int32) := by
  unfold Jvm.Free.XT.cmpL
  rw [if_neg (by rw [Int64.lt_iff_toInt_lt] at h ⊢; omega), if_neg (by intro q; subst q; rw [Int64.lt_iff_toInt_lt] at h; omega)]; decide
theorem own_cl_lt_n {x y : Int64} (h : ¬ x < y) : ¬ Jvm.Free.XT.cmpL x y < (0 : Int32) := by
  unfold Jvm.Free.XT.cmpL
  by_cases h1 : y < x
  · rw [if_pos h1]; decide
  · rw [if_neg h1]
    have h2 : x = y := by
      rw [Int64.lt_iff_toInt_lt] at h h1
      exact Int64.toInt_inj.mp (by omega)
    rw [if_pos h2]; decide
theorem own_eq_int {a : Array Value} {s : State} {t : Term} {k : Int32} (h : (Jvm.Cond.eq t (Term.int k)).value a s none s [] = some true) : t.eval a s none [] s = some (.int k) := by
  obtain ⟨x, y, hx, hy, k1, k2⟩ := cmp_v (Or.inl h)
  obtain rfl : y = .int k := Option.some.inj (hy.symm.trans (Term.int_eval k))
  obtain ⟨z, rfl⟩ := k2
  rw [hx, gotT (Cond.eq_ints hx hy) h]
end Own


theorem own_d2_0 : decode jdk_30_method_1_code 0 = .ok (.aload_n 0, 1) := by decide +kernel
theorem own_d2_1 : decode jdk_30_method_1_code 1 = .ok (.invokespecial 1, 3) := by decide +kernel
theorem own_d2_4 : decode jdk_30_method_1_code 4 = .ok (.return_, 1) := by decide +kernel
theorem own_pn_Record : plainName "java/lang/Record" = true := by first | (simp [plainName, overriddenIn]; done) | decide +kernel
theorem own_ef2 (m : MethodId) (x0 : Addr) : entryFrame m #[(.ref x0)] 1 = mkF m 0 #[.val (.ref x0)] [] := by first | (simp [entryFrame, mkF, argsToLocals, Value.category, maxLocals]; done) | rfl
theorem own_pd0 : parseMethodDescriptor "()V" = some ⟨[], none⟩ := by decide +kernel
set_option maxRecDepth 65536 in
set_option maxHeartbeats 40000000 in
theorem own_rm_recinit (l : Launch) (Z : State) (a0 : Array Value) (hw : ∀ d ∈ tables_1, d.before a0 Z = true) (r0 : Addr) (h0 : Heap) : own_Con l Z [] (⟨"java/lang/Record", "<init>", "()V"⟩ : MethodName) jdk_30_method_1_code 1 none ({ frames := 1, cells := 0, slots := 0, locals := 12 } : Room) #[(.ref r0)] h0 (own_Q1 (none) h0) := by
  refine own_body (plainFor_of_name own_pn_Record) ?_
  intro p e s m below meth c s₁ X0 hx hby hml hret hlk hown hnm hZ e0
  refine oS (u' := s₁.setTop (mkF m 0 #[.val (.ref r0)] [])) (fun _ kst => castTop (own_ef2 m r0) kst) ?_
  refine oS (u' := s₁.setTop (mkF m 1 #[.val (.ref r0)] [(.ref r0)])) (fun _ kst => XS.aloadN X0.here hx rfl (hb hby own_d2_0) rfl rfl kst) ?_
  obtain ⟨T1, X1, e1, st1⟩ := initO X0 hx hZ hown (hw _ (List.mem_of_getElem? (i := 11) rfl)) (hw _ (List.mem_of_getElem? (i := 12) rfl)) (hw _ (List.mem_of_getElem? (i := 13) rfl)) e0 (g := (mkF m 1 #[.val (.ref r0)] [(.ref r0)])) rfl (by rw [hml]; rfl) rfl (hb hby own_d2_1) (by decide) (W := 0) (by show 2 * 0 + _ ≤ _; exact Nat.le_of_eq rfl) (by decide)
  refine oS (u' := T1.setTop (mkF m 4 #[.val (.ref r0)] [])) st1 ?_
  refine own_ret0 X1 hx hlk hret (hb hby own_d2_4) ?_ (by decide) (by decide)
  exact ⟨rfl, e1, rfl⟩
theorem own_d1_0 : decode prog_30_method_1_code 0 = .ok (.aload_n 0, 1) := by decide +kernel
theorem own_d1_1 : decode prog_30_method_1_code 1 = .ok (.invokespecial 1, 3) := by decide +kernel
theorem own_d1_4 : decode prog_30_method_1_code 4 = .ok (.aload_n 0, 1) := by decide +kernel
theorem own_d1_5 : decode prog_30_method_1_code 5 = .ok (.iload_n 1, 1) := by decide +kernel
theorem own_d1_6 : decode prog_30_method_1_code 6 = .ok (.putfield 7, 3) := by decide +kernel
theorem own_d1_9 : decode prog_30_method_1_code 9 = .ok (.aload_n 0, 1) := by decide +kernel
theorem own_d1_10 : decode prog_30_method_1_code 10 = .ok (.iload_n 2, 1) := by decide +kernel
theorem own_d1_11 : decode prog_30_method_1_code 11 = .ok (.putfield 13, 3) := by decide +kernel
theorem own_d1_14 : decode prog_30_method_1_code 14 = .ok (.return_, 1) := by decide +kernel
theorem own_pn_Position : plainName "com/example/demitasse/demitasse/source/Position" = true := by first | (simp [plainName, overriddenIn]; done) | decide +kernel
theorem own_ef1 (m : MethodId) (x0 : Addr) (x1 : Int32) (x2 : Int32) : entryFrame m #[(.ref x0), (.int x1), (.int x2)] 3 = mkF m 0 #[.val (.ref x0), .val (.int x1), .val (.int x2)] [] := by first | (simp [entryFrame, mkF, argsToLocals, Value.category, maxLocals]; done) | rfl
set_option maxRecDepth 65536 in
set_option maxHeartbeats 40000000 in
theorem own_rm_posinit (l : Launch) (Z : State) (a0 : Array Value) (hw : ∀ d ∈ tables_1, d.before a0 Z = true) (r0 : Addr) (p1 : Int32) (p2 : Int32) (h0 : Heap) (n0 : Nat) (Z0 : n0 ≤ h0.size) (E0 : Exa Z h0 r0 "com/example/demitasse/demitasse/source/Position") (F1 : Fld Z h0 r0 "com/example/demitasse/demitasse/source/Position" "line" "I" (.int (0 : Int32))) (F2 : Fld Z h0 r0 "com/example/demitasse/demitasse/source/Position" "column" "I" (.int (0 : Int32))) (g0 : n0 ≤ r0) : own_Con l Z [] (⟨"com/example/demitasse/demitasse/source/Position", "<init>", "(II)V"⟩ : MethodName) prog_30_method_1_code 3 none ({ frames := 2, cells := 0, slots := 0, locals := 24 } : Room) #[(.ref r0), (.int p1), (.int p2)] h0 (fun v h L => v = none ∧ Fr n0 L ∧ Keep h0 h [r0] ∧ Fld Z h r0 "com/example/demitasse/demitasse/source/Position" "line" "I" (.int p1) ∧ Fld Z h r0 "com/example/demitasse/demitasse/source/Position" "column" "I" (.int p2)) := by
  refine own_body (plainFor_of_name own_pn_Position) ?_
  intro p e s m below meth c s₁ X0 hx hby hml hret hlk hown hnm hZ e0
  have N0 := Fr.nil n0
  have K0 : Keep h0 h0 [r0] := Keep.refl _ _
  refine oS (u' := s₁.setTop (mkF m 0 #[.val (.ref r0), .val (.int p1), .val (.int p2)] [])) (fun _ kst => castTop (own_ef1 m r0 p1 p2) kst) ?_
  refine oS (u' := s₁.setTop (mkF m 1 #[.val (.ref r0), .val (.int p1), .val (.int p2)] [(.ref r0)])) (fun _ kst => XS.aloadN X0.here hx rfl (hb hby own_d1_0) rfl rfl kst) ?_
  obtain ⟨T2, X2, e2, st2⟩ := own_callIP X0 hx hZ (y := (⟨"java/lang/Record", "<init>", "()V"⟩ : MethodName)) rfl hown (hw _ (List.mem_of_getElem? (i := 6) rfl)) (hw _ (List.mem_of_getElem? (i := 7) rfl)) (hw _ (List.mem_of_getElem? (i := 10) rfl)) (hw _ (List.mem_of_getElem? (i := 9) rfl)) (by decide) e0 (W := 0) (own_rm_recinit l Z a0 hw r0 h0) (by decide) (by decide) (g := (mkF m 1 #[.val (.ref r0), .val (.int p1), .val (.int p2)] [(.ref r0)])) rfl (by rw [hml]; rfl) (a := r0) (argsL := []) (rest := []) (lenOf own_pd0 rfl) rfl (by show 2 * 0 + _ ≤ _; exact Nat.le_of_eq rfl) (hb hby own_d1_1) (by decide) (by decide)
  refine oS (u' := T2.setTop (mkF m 4 #[.val (.ref r0), .val (.int p1), .val (.int p2)] [])) st2 ?_
  refine oS (u' := T2.setTop (mkF m 5 #[.val (.ref r0), .val (.int p1), .val (.int p2)] [(.ref r0)])) (fun _ kst => XS.aloadN X2.here hx rfl (hb hby own_d1_4) rfl rfl kst) ?_
  refine oS (u' := T2.setTop (mkF m 6 #[.val (.ref r0), .val (.int p1), .val (.int p2)] [(.int p1), (.ref r0)])) (fun _ kst => XS.iloadN X2.here hx rfl (hb hby own_d1_5) rfl kst) ?_
  obtain ⟨T3, h3, X3, e3, W3, st3⟩ := putF X2 hx hZ hown (host := "") (Or.inl (hw _ (List.mem_of_getElem? (i := 14) rfl))) Via.refl e2 F1 E0 (Or.inr ⟨(hw _ (List.mem_of_getElem? (i := 15) rfl)), rfl, hnm⟩) (hw _ (List.mem_of_getElem? (i := 1) rfl)) (ty := .int) (by decide) rfl rfl (g := (mkF m 6 #[.val (.ref r0), .val (.int p1), .val (.int p2)] [(.int p1), (.ref r0)])) rfl rfl (hb hby own_d1_6)
  have f3_E_r0 := E0.wr W3
  have f3_F_r0_line := F1.same W3
  have f3_F_r0_column := F2.other W3 (Or.inr (slot_ne (Or.inr (hw _ (List.mem_of_getElem? (i := 17) rfl))) (Or.inr (hw _ (List.mem_of_getElem? (i := 15) rfl))) (by decide) (t := .int) (t' := .int) (by decide) (by decide)))
  have K3 := K0.wr W3 (Or.inl (List.mem_of_getElem? (i := 0) rfl))
  have Z3 := Nat.le_trans Z0 (Keep.of_wr W3).1
  have N3 := Fr.snoc X3 N0 g0
  refine oS (u' := T3.setTop (mkF m 9 #[.val (.ref r0), .val (.int p1), .val (.int p2)] [])) st3 ?_
  refine oS (u' := T3.setTop (mkF m 10 #[.val (.ref r0), .val (.int p1), .val (.int p2)] [(.ref r0)])) (fun _ kst => XS.aloadN X3.here hx rfl (hb hby own_d1_9) rfl rfl kst) ?_
  refine oS (u' := T3.setTop (mkF m 11 #[.val (.ref r0), .val (.int p1), .val (.int p2)] [(.int p2), (.ref r0)])) (fun _ kst => XS.iloadN X3.here hx rfl (hb hby own_d1_10) rfl kst) ?_
  obtain ⟨T4, h4, X4, e4, W4, st4⟩ := putF X3 hx hZ hown (host := "") (Or.inl (hw _ (List.mem_of_getElem? (i := 16) rfl))) Via.refl e3 f3_F_r0_column f3_E_r0 (Or.inr ⟨(hw _ (List.mem_of_getElem? (i := 17) rfl)), rfl, hnm⟩) (hw _ (List.mem_of_getElem? (i := 1) rfl)) (ty := .int) (by decide) rfl rfl (g := (mkF m 11 #[.val (.ref r0), .val (.int p1), .val (.int p2)] [(.int p2), (.ref r0)])) rfl rfl (hb hby own_d1_11)
  have f4_E_r0 := f3_E_r0.wr W4
  have f4_F_r0_line := f3_F_r0_line.other W4 (Or.inr (slot_ne (Or.inr (hw _ (List.mem_of_getElem? (i := 15) rfl))) (Or.inr (hw _ (List.mem_of_getElem? (i := 17) rfl))) (by decide) (t := .int) (t' := .int) (by decide) (by decide)))
  have f4_F_r0_column := f3_F_r0_column.same W4
  have K4 := K3.wr W4 (Or.inl (List.mem_of_getElem? (i := 0) rfl))
  have Z4 := Nat.le_trans Z3 (Keep.of_wr W4).1
  have N4 := Fr.snoc X4 N3 g0
  refine oS (u' := T4.setTop (mkF m 14 #[.val (.ref r0), .val (.int p1), .val (.int p2)] [])) st4 ?_
  refine own_ret0 X4 hx hlk hret (hb hby own_d1_14) ?_ (by decide) (by decide)
  show _ ∧ _
  rw [e4]
  exact ⟨rfl, N4, K4, f4_F_r0_line, f4_F_r0_column⟩
theorem own_d6_0 : decode jdk_33_method_40_code 0 = .ok (.iload_n 0, 1) := by decide +kernel
theorem own_d6_1 : decode jdk_33_method_40_code 1 = .ok (.iload_n 1, 1) := by decide +kernel
theorem own_d6_2 : decode jdk_33_method_40_code 2 = .ok (.if_icmp .ge 7, 3) := by decide +kernel
theorem own_d6_5 : decode jdk_33_method_40_code 5 = .ok (.iconst (-1), 1) := by decide +kernel
theorem own_d6_6 : decode jdk_33_method_40_code 6 = .ok (.goto 13, 3) := by decide +kernel
theorem own_d6_9 : decode jdk_33_method_40_code 9 = .ok (.iload_n 0, 1) := by decide +kernel
theorem own_d6_10 : decode jdk_33_method_40_code 10 = .ok (.iload_n 1, 1) := by decide +kernel
theorem own_d6_11 : decode jdk_33_method_40_code 11 = .ok (.if_icmp .ne 7, 3) := by decide +kernel
theorem own_d6_14 : decode jdk_33_method_40_code 14 = .ok (.iconst 0, 1) := by decide +kernel
theorem own_d6_15 : decode jdk_33_method_40_code 15 = .ok (.goto 4, 3) := by decide +kernel
theorem own_d6_18 : decode jdk_33_method_40_code 18 = .ok (.iconst 1, 1) := by decide +kernel
theorem own_d6_19 : decode jdk_33_method_40_code 19 = .ok (.ireturn, 1) := by decide +kernel
theorem own_pn_Integer : plainName "java/lang/Integer" = true := by first | (simp [plainName, overriddenIn]; done) | decide +kernel
theorem own_ef6 (m : MethodId) (x0 : Int32) (x1 : Int32) : entryFrame m #[(.int x0), (.int x1)] 2 = mkF m 0 #[.val (.int x0), .val (.int x1)] [] := by first | (simp [entryFrame, mkF, argsToLocals, Value.category, maxLocals]; done) | rfl
def own_icmp (p1 : Int32) (p2 : Int32) : Int32 := (if p1 < p2 then (-1 : Int32) else (if p1 = p2 then (0 : Int32) else (1 : Int32)))
set_option maxRecDepth 65536 in
set_option maxHeartbeats 40000000 in
theorem own_rm_icmp (l : Launch) (Z : State) (a0 : Array Value) (hw : ∀ d ∈ tables_1, d.before a0 Z = true) (p1 : Int32) (p2 : Int32) (h0 : Heap) : own_Con l Z [] (⟨"java/lang/Integer", "compare", "(II)I"⟩ : MethodName) jdk_33_method_40_code 2 (some .int) ({ frames := 0, cells := 0, slots := 0, locals := 0 } : Room) #[(.int p1), (.int p2)] h0 (own_Q1 (some (.int (own_icmp p1 p2))) h0) := by
  refine own_body (plainFor_of_name own_pn_Integer) ?_
  intro p e s m below meth c s₁ X0 hx hby hml hret hlk hown hnm hZ e0
  refine oS (u' := s₁.setTop (mkF m 0 #[.val (.int p1), .val (.int p2)] [])) (fun _ kst => castTop (own_ef6 m p1 p2) kst) ?_
  refine oS (u' := s₁.setTop (mkF m 1 #[.val (.int p1), .val (.int p2)] [(.int p1)])) (fun _ kst => XS.iloadN X0.here hx rfl (hb hby own_d6_0) rfl kst) ?_
  refine oS (u' := s₁.setTop (mkF m 2 #[.val (.int p1), .val (.int p2)] [(.int p2), (.int p1)])) (fun _ kst => XS.iloadN X0.here hx rfl (hb hby own_d6_1) rfl kst) ?_
  by_cases hc5 : p1 < p2
  · refine oS (u' := s₁.setTop (mkF m 5 #[.val (.int p1), .val (.int p2)] [])) (fun _ kst => XS.icmpNo X0.here hx rfl (hb hby own_d6_2) rfl (tlt hc5).2.1 kst) ?_
    refine oS (u' := s₁.setTop (mkF m 6 #[.val (.int p1), .val (.int p2)] [(.int (-1 : Int32))])) (fun _ kst => XS.iconst X0.here hx rfl (hb hby own_d6_5) kst) ?_
    refine oS (u' := s₁.setTop (mkF m 19 #[.val (.int p1), .val (.int p2)] [(.int (-1 : Int32))])) (fun _ kst => XS.goto X0.here hx rfl (pc0 := 6) (pc' := 19) rfl (hb hby own_d6_6) (by decide) (by decide) kst) ?_
    refine own_retI X0 hx hlk hret (hb hby own_d6_19) ?_ (by decide) (by decide)
    exact ⟨(by show (some (.int (-1 : Int32)) : Option Value) = _; unfold own_icmp; rw [if_pos hc5]), e0, rfl⟩
  · refine oS (u' := s₁.setTop (mkF m 9 #[.val (.int p1), .val (.int p2)] [])) (fun _ kst => XS.icmpYes X0.here hx rfl (pc0 := 2) (pc' := 9) rfl (hb hby own_d6_2) rfl (flt hc5).2.1 (by decide) (by decide) kst) ?_
    refine oS (u' := s₁.setTop (mkF m 10 #[.val (.int p1), .val (.int p2)] [(.int p1)])) (fun _ kst => XS.iloadN X0.here hx rfl (hb hby own_d6_9) rfl kst) ?_
    refine oS (u' := s₁.setTop (mkF m 11 #[.val (.int p1), .val (.int p2)] [(.int p2), (.int p1)])) (fun _ kst => XS.iloadN X0.here hx rfl (hb hby own_d6_10) rfl kst) ?_
    by_cases hc6 : p1 = p2
    · refine oS (u' := s₁.setTop (mkF m 14 #[.val (.int p1), .val (.int p2)] [])) (fun _ kst => XS.icmpNo X0.here hx rfl (hb hby own_d6_11) rfl (teq hc6).2 kst) ?_
      refine oS (u' := s₁.setTop (mkF m 15 #[.val (.int p1), .val (.int p2)] [(.int (0 : Int32))])) (fun _ kst => XS.iconst X0.here hx rfl (hb hby own_d6_14) kst) ?_
      refine oS (u' := s₁.setTop (mkF m 19 #[.val (.int p1), .val (.int p2)] [(.int (0 : Int32))])) (fun _ kst => XS.goto X0.here hx rfl (pc0 := 15) (pc' := 19) rfl (hb hby own_d6_15) (by decide) (by decide) kst) ?_
      refine own_retI X0 hx hlk hret (hb hby own_d6_19) ?_ (by decide) (by decide)
      exact ⟨(by show (some (.int (0 : Int32)) : Option Value) = _; unfold own_icmp; rw [if_neg hc5, if_pos hc6]), e0, rfl⟩
    · refine oS (u' := s₁.setTop (mkF m 18 #[.val (.int p1), .val (.int p2)] [])) (fun _ kst => XS.icmpYes X0.here hx rfl (pc0 := 11) (pc' := 18) rfl (hb hby own_d6_11) rfl (feq hc6).2 (by decide) (by decide) kst) ?_
      refine oS (u' := s₁.setTop (mkF m 19 #[.val (.int p1), .val (.int p2)] [(.int (1 : Int32))])) (fun _ kst => XS.iconst X0.here hx rfl (hb hby own_d6_18) kst) ?_
      refine own_retI X0 hx hlk hret (hb hby own_d6_19) ?_ (by decide) (by decide)
      exact ⟨(by show (some (.int (1 : Int32)) : Option Value) = _; unfold own_icmp; rw [if_neg hc5, if_neg hc6]), e0, rfl⟩
theorem own_d5_0 : decode prog_30_method_2_code 0 = .ok (.aload_n 0, 1) := by decide +kernel
theorem own_d5_1 : decode prog_30_method_2_code 1 = .ok (.getfield 7, 3) := by decide +kernel
theorem own_d5_4 : decode prog_30_method_2_code 4 = .ok (.aload_n 1, 1) := by decide +kernel
theorem own_d5_5 : decode prog_30_method_2_code 5 = .ok (.getfield 7, 3) := by decide +kernel
theorem own_d5_8 : decode prog_30_method_2_code 8 = .ok (.invokestatic 16, 3) := by decide +kernel
theorem own_d5_11 : decode prog_30_method_2_code 11 = .ok (.istore_n 2, 1) := by decide +kernel
theorem own_d5_12 : decode prog_30_method_2_code 12 = .ok (.iload_n 2, 1) := by decide +kernel
theorem own_d5_13 : decode prog_30_method_2_code 13 = .ok (.ifCond .ne 15, 3) := by decide +kernel
theorem own_d5_16 : decode prog_30_method_2_code 16 = .ok (.aload_n 0, 1) := by decide +kernel
theorem own_d5_17 : decode prog_30_method_2_code 17 = .ok (.getfield 13, 3) := by decide +kernel
theorem own_d5_20 : decode prog_30_method_2_code 20 = .ok (.aload_n 1, 1) := by decide +kernel
theorem own_d5_21 : decode prog_30_method_2_code 21 = .ok (.getfield 13, 3) := by decide +kernel
theorem own_d5_24 : decode prog_30_method_2_code 24 = .ok (.invokestatic 16, 3) := by decide +kernel
theorem own_d5_27 : decode prog_30_method_2_code 27 = .ok (.istore_n 2, 1) := by decide +kernel
theorem own_d5_28 : decode prog_30_method_2_code 28 = .ok (.iload_n 2, 1) := by decide +kernel
theorem own_d5_29 : decode prog_30_method_2_code 29 = .ok (.ireturn, 1) := by decide +kernel
theorem own_ef5 (m : MethodId) (x0 : Addr) (x1 : Addr) : entryFrame m #[(.ref x0), (.ref x1)] 3 = mkF m 0 #[.val (.ref x0), .val (.ref x1), .unset] [] := by first | (simp [entryFrame, mkF, argsToLocals, Value.category, maxLocals]; done) | rfl
theorem own_pd1 : parseMethodDescriptor "(II)I" = some ⟨[.int, .int], some .int⟩ := by decide +kernel
def own_cto (r0 : Addr) (p1 : Addr) (l1 : Int32) (c1 : Int32) (l2 : Int32) (c2 : Int32) : Int32 := (if (own_icmp l1 l2) = (0 : Int32) then (own_icmp c1 c2) else (own_icmp l1 l2))
set_option maxRecDepth 65536 in
set_option maxHeartbeats 40000000 in
theorem own_rm_cto (l : Launch) (Z : State) (a0 : Array Value) (hw : ∀ d ∈ tables_1, d.before a0 Z = true) (r0 : Addr) (p1 : Addr) (l1 : Int32) (c1 : Int32) (l2 : Int32) (c2 : Int32) (h0 : Heap) (Flr0 : Fld Z h0 r0 "com/example/demitasse/demitasse/source/Position" "line" "I" (.int l1)) (Fcr0 : Fld Z h0 r0 "com/example/demitasse/demitasse/source/Position" "column" "I" (.int c1)) (Flp1 : Fld Z h0 p1 "com/example/demitasse/demitasse/source/Position" "line" "I" (.int l2)) (Fcp1 : Fld Z h0 p1 "com/example/demitasse/demitasse/source/Position" "column" "I" (.int c2)) : own_Con l Z [] (⟨"com/example/demitasse/demitasse/source/Position", "compareTo", "(Lcom/example/demitasse/demitasse/source/Position;)I"⟩ : MethodName) prog_30_method_2_code 3 (some .int) ({ frames := 1, cells := 0, slots := 0, locals := 13 } : Room) #[(.ref r0), (.ref p1)] h0 (own_Q1 (some (.int (own_cto r0 p1 l1 c1 l2 c2))) h0) := by
  refine own_body (plainFor_of_name own_pn_Position) ?_
  intro p e s m below meth c s₁ X0 hx hby hml hret hlk hown hnm hZ e0
  refine oS (u' := s₁.setTop (mkF m 0 #[.val (.ref r0), .val (.ref p1), .unset] [])) (fun _ kst => castTop (own_ef5 m r0 p1) kst) ?_
  refine oS (u' := s₁.setTop (mkF m 1 #[.val (.ref r0), .val (.ref p1), .unset] [(.ref r0)])) (fun _ kst => XS.aloadN X0.here hx rfl (hb hby own_d5_0) rfl rfl kst) ?_
  obtain ⟨T7, X7, e7, st7⟩ := getF X0 hx hZ hown (host := "") (Or.inl (hw _ (List.mem_of_getElem? (i := 14) rfl))) Via.refl e0 Flr0 (g := (mkF m 1 #[.val (.ref r0), .val (.ref p1), .unset] [(.ref r0)])) rfl rfl (hb hby own_d5_1)
  refine oS (u' := T7.setTop (mkF m 4 #[.val (.ref r0), .val (.ref p1), .unset] [(.int l1)])) st7 ?_
  refine oS (u' := T7.setTop (mkF m 5 #[.val (.ref r0), .val (.ref p1), .unset] [(.ref p1), (.int l1)])) (fun _ kst => XS.aloadN X7.here hx rfl (hb hby own_d5_4) rfl rfl kst) ?_
  obtain ⟨T8, X8, e8, st8⟩ := getF X7 hx hZ hown (host := "") (Or.inl (hw _ (List.mem_of_getElem? (i := 14) rfl))) Via.refl e7 Flp1 (g := (mkF m 5 #[.val (.ref r0), .val (.ref p1), .unset] [(.ref p1), (.int l1)])) rfl rfl (hb hby own_d5_5)
  refine oS (u' := T8.setTop (mkF m 8 #[.val (.ref r0), .val (.ref p1), .unset] [(.int l2), (.int l1)])) st8 ?_
  obtain ⟨T9, X9, e9, st9⟩ := own_callSP X8 hx hZ (y := (⟨"java/lang/Integer", "compare", "(II)I"⟩ : MethodName)) hown (hw _ (List.mem_of_getElem? (i := 27) rfl)) (hw _ (List.mem_of_getElem? (i := 28) rfl)) (hw _ (List.mem_of_getElem? (i := 30) rfl)) (hw _ (List.mem_of_getElem? (i := 29) rfl)) (by decide) e8 (W := 0) (own_rm_icmp l Z a0 hw l1 l2 h0 ) (by decide) (by decide) (g := (mkF m 8 #[.val (.ref r0), .val (.ref p1), .unset] [(.int l2), (.int l1)])) rfl (by rw [hml]; rfl) (argsL := [(.int l1), (.int l2)]) (rest := []) (lenOf own_pd1 rfl) rfl (by show 2 * 0 + _ ≤ _; exact Nat.le_of_eq rfl) (hb hby own_d5_8) (by decide) (by decide)
  refine oS (u' := T9.setTop (mkF m 11 #[.val (.ref r0), .val (.ref p1), .unset] [(.int (own_icmp l1 l2))])) st9 ?_
  refine oS (u' := T9.setTop (mkF m 12 #[.val (.ref r0), .val (.ref p1), .val (.int (own_icmp l1 l2))] [])) (fun _ kst => XS.istoreN X9.here hx rfl (hb hby own_d5_11) rfl (l' := #[.val (.ref r0), .val (.ref p1), .val (.int (own_icmp l1 l2))]) rfl kst) ?_
  refine oS (u' := T9.setTop (mkF m 13 #[.val (.ref r0), .val (.ref p1), .val (.int (own_icmp l1 l2))] [(.int (own_icmp l1 l2))])) (fun _ kst => XS.iloadN X9.here hx rfl (hb hby own_d5_12) rfl kst) ?_
  by_cases hc10 : (own_icmp l1 l2) = (0 : Int32)
  · refine oS (u' := T9.setTop (mkF m 16 #[.val (.ref r0), .val (.ref p1), .val (.int (own_icmp l1 l2))] [])) (fun _ kst => XS.ifNo X9.here hx rfl (hb hby own_d5_13) rfl ((if0 _ _).trans (teq hc10).2) kst) ?_
    refine oS (u' := T9.setTop (mkF m 17 #[.val (.ref r0), .val (.ref p1), .val (.int (own_icmp l1 l2))] [(.ref r0)])) (fun _ kst => XS.aloadN X9.here hx rfl (hb hby own_d5_16) rfl rfl kst) ?_
    obtain ⟨T11, X11, e11, st11⟩ := getF X9 hx hZ hown (host := "") (Or.inl (hw _ (List.mem_of_getElem? (i := 16) rfl))) Via.refl e9 Fcr0 (g := (mkF m 17 #[.val (.ref r0), .val (.ref p1), .val (.int (own_icmp l1 l2))] [(.ref r0)])) rfl rfl (hb hby own_d5_17)
    refine oS (u' := T11.setTop (mkF m 20 #[.val (.ref r0), .val (.ref p1), .val (.int (own_icmp l1 l2))] [(.int c1)])) st11 ?_
    refine oS (u' := T11.setTop (mkF m 21 #[.val (.ref r0), .val (.ref p1), .val (.int (own_icmp l1 l2))] [(.ref p1), (.int c1)])) (fun _ kst => XS.aloadN X11.here hx rfl (hb hby own_d5_20) rfl rfl kst) ?_
    obtain ⟨T12, X12, e12, st12⟩ := getF X11 hx hZ hown (host := "") (Or.inl (hw _ (List.mem_of_getElem? (i := 16) rfl))) Via.refl e11 Fcp1 (g := (mkF m 21 #[.val (.ref r0), .val (.ref p1), .val (.int (own_icmp l1 l2))] [(.ref p1), (.int c1)])) rfl rfl (hb hby own_d5_21)
    refine oS (u' := T12.setTop (mkF m 24 #[.val (.ref r0), .val (.ref p1), .val (.int (own_icmp l1 l2))] [(.int c2), (.int c1)])) st12 ?_
    obtain ⟨T13, X13, e13, st13⟩ := own_callSP X12 hx hZ (y := (⟨"java/lang/Integer", "compare", "(II)I"⟩ : MethodName)) hown (hw _ (List.mem_of_getElem? (i := 27) rfl)) (hw _ (List.mem_of_getElem? (i := 28) rfl)) (hw _ (List.mem_of_getElem? (i := 30) rfl)) (hw _ (List.mem_of_getElem? (i := 29) rfl)) (by decide) e12 (W := 0) (own_rm_icmp l Z a0 hw c1 c2 h0 ) (by decide) (by decide) (g := (mkF m 24 #[.val (.ref r0), .val (.ref p1), .val (.int (own_icmp l1 l2))] [(.int c2), (.int c1)])) rfl (by rw [hml]; rfl) (argsL := [(.int c1), (.int c2)]) (rest := []) (lenOf own_pd1 rfl) rfl (by show 2 * 0 + _ ≤ _; exact Nat.le_of_eq rfl) (hb hby own_d5_24) (by decide) (by decide)
    refine oS (u' := T13.setTop (mkF m 27 #[.val (.ref r0), .val (.ref p1), .val (.int (own_icmp l1 l2))] [(.int (own_icmp c1 c2))])) st13 ?_
    refine oS (u' := T13.setTop (mkF m 28 #[.val (.ref r0), .val (.ref p1), .val (.int (own_icmp c1 c2))] [])) (fun _ kst => XS.istoreN X13.here hx rfl (hb hby own_d5_27) rfl (l' := #[.val (.ref r0), .val (.ref p1), .val (.int (own_icmp c1 c2))]) rfl kst) ?_
    refine oS (u' := T13.setTop (mkF m 29 #[.val (.ref r0), .val (.ref p1), .val (.int (own_icmp c1 c2))] [(.int (own_icmp c1 c2))])) (fun _ kst => XS.iloadN X13.here hx rfl (hb hby own_d5_28) rfl kst) ?_
    refine own_retI X13 hx hlk hret (hb hby own_d5_29) ?_ (by decide) (by decide)
    exact ⟨(by show (some (.int (own_icmp c1 c2)) : Option Value) = _; unfold own_cto; rw [if_pos hc10]), e13, rfl⟩
  · refine oS (u' := T9.setTop (mkF m 28 #[.val (.ref r0), .val (.ref p1), .val (.int (own_icmp l1 l2))] [])) (fun _ kst => XS.ifYes X9.here hx rfl (pc0 := 13) (pc' := 28) rfl (hb hby own_d5_13) rfl ((if0 _ _).trans (feq hc10).2) (by decide) (by decide) kst) ?_
    refine oS (u' := T9.setTop (mkF m 29 #[.val (.ref r0), .val (.ref p1), .val (.int (own_icmp l1 l2))] [(.int (own_icmp l1 l2))])) (fun _ kst => XS.iloadN X9.here hx rfl (hb hby own_d5_28) rfl kst) ?_
    refine own_retI X9 hx hlk hret (hb hby own_d5_29) ?_ (by decide) (by decide)
    exact ⟨(by show (some (.int (own_icmp l1 l2)) : Option Value) = _; unfold own_cto; rw [if_neg hc10]), e9, rfl⟩
theorem own_d4_0 : decode method_3_code 0 = .ok (.iload_n 0, 1) := by decide +kernel
theorem own_d4_1 : decode method_3_code 1 = .ok (.iload_n 1, 1) := by decide +kernel
theorem own_d4_2 : decode method_3_code 2 = .ok (.if_icmp .ge 5, 3) := by decide +kernel
theorem own_d4_5 : decode method_3_code 5 = .ok (.iconst (-1), 1) := by decide +kernel
theorem own_d4_6 : decode method_3_code 6 = .ok (.ireturn, 1) := by decide +kernel
theorem own_d4_7 : decode method_3_code 7 = .ok (.iload_n 0, 1) := by decide +kernel
theorem own_d4_8 : decode method_3_code 8 = .ok (.iload_n 1, 1) := by decide +kernel
theorem own_d4_9 : decode method_3_code 9 = .ok (.if_icmp .le 5, 3) := by decide +kernel
theorem own_d4_12 : decode method_3_code 12 = .ok (.iconst 1, 1) := by decide +kernel
theorem own_d4_13 : decode method_3_code 13 = .ok (.ireturn, 1) := by decide +kernel
theorem own_d4_14 : decode method_3_code 14 = .ok (.iconst 0, 1) := by decide +kernel
theorem own_d4_15 : decode method_3_code 15 = .ok (.ireturn, 1) := by decide +kernel
theorem own_pn_PositionCompareToPinLaw : plainName "com/example/demitasse/demitasse/source/PositionCompareToPinLaw" = true := by first | (simp [plainName, overriddenIn]; done) | decide +kernel
theorem own_ef4 (m : MethodId) (x0 : Int32) (x1 : Int32) : entryFrame m #[(.int x0), (.int x1)] 2 = mkF m 0 #[.val (.int x0), .val (.int x1)] [] := by first | (simp [entryFrame, mkF, argsToLocals, Value.category, maxLocals]; done) | rfl
def own_cmp (p1 : Int32) (p2 : Int32) : Int32 := (if p1 < p2 then (-1 : Int32) else (if p2 < p1 then (1 : Int32) else (0 : Int32)))
set_option maxRecDepth 65536 in
set_option maxHeartbeats 40000000 in
theorem own_rm_cmp (l : Launch) (Z : State) (a0 : Array Value) (hw : ∀ d ∈ tables_1, d.before a0 Z = true) (p1 : Int32) (p2 : Int32) (h0 : Heap) : own_Con l Z [] (⟨"com/example/demitasse/demitasse/source/PositionCompareToPinLaw", "cmp", "(II)I"⟩ : MethodName) method_3_code 2 (some .int) ({ frames := 0, cells := 0, slots := 0, locals := 0 } : Room) #[(.int p1), (.int p2)] h0 (own_Q1 (some (.int (own_cmp p1 p2))) h0) := by
  refine own_body (plainFor_of_name own_pn_PositionCompareToPinLaw) ?_
  intro p e s m below meth c s₁ X0 hx hby hml hret hlk hown hnm hZ e0
  refine oS (u' := s₁.setTop (mkF m 0 #[.val (.int p1), .val (.int p2)] [])) (fun _ kst => castTop (own_ef4 m p1 p2) kst) ?_
  refine oS (u' := s₁.setTop (mkF m 1 #[.val (.int p1), .val (.int p2)] [(.int p1)])) (fun _ kst => XS.iloadN X0.here hx rfl (hb hby own_d4_0) rfl kst) ?_
  refine oS (u' := s₁.setTop (mkF m 2 #[.val (.int p1), .val (.int p2)] [(.int p2), (.int p1)])) (fun _ kst => XS.iloadN X0.here hx rfl (hb hby own_d4_1) rfl kst) ?_
  by_cases hc14 : p1 < p2
  · refine oS (u' := s₁.setTop (mkF m 5 #[.val (.int p1), .val (.int p2)] [])) (fun _ kst => XS.icmpNo X0.here hx rfl (hb hby own_d4_2) rfl (tlt hc14).2.1 kst) ?_
    refine oS (u' := s₁.setTop (mkF m 6 #[.val (.int p1), .val (.int p2)] [(.int (-1 : Int32))])) (fun _ kst => XS.iconst X0.here hx rfl (hb hby own_d4_5) kst) ?_
    refine own_retI X0 hx hlk hret (hb hby own_d4_6) ?_ (by decide) (by decide)
    exact ⟨(by show (some (.int (-1 : Int32)) : Option Value) = _; unfold own_cmp; rw [if_pos hc14]), e0, rfl⟩
  · refine oS (u' := s₁.setTop (mkF m 7 #[.val (.int p1), .val (.int p2)] [])) (fun _ kst => XS.icmpYes X0.here hx rfl (pc0 := 2) (pc' := 7) rfl (hb hby own_d4_2) rfl (flt hc14).2.1 (by decide) (by decide) kst) ?_
    refine oS (u' := s₁.setTop (mkF m 8 #[.val (.int p1), .val (.int p2)] [(.int p1)])) (fun _ kst => XS.iloadN X0.here hx rfl (hb hby own_d4_7) rfl kst) ?_
    refine oS (u' := s₁.setTop (mkF m 9 #[.val (.int p1), .val (.int p2)] [(.int p2), (.int p1)])) (fun _ kst => XS.iloadN X0.here hx rfl (hb hby own_d4_8) rfl kst) ?_
    by_cases hc15 : p2 < p1
    · refine oS (u' := s₁.setTop (mkF m 12 #[.val (.int p1), .val (.int p2)] [])) (fun _ kst => XS.icmpNo X0.here hx rfl (hb hby own_d4_9) rfl (tlt hc15).2.2.2 kst) ?_
      refine oS (u' := s₁.setTop (mkF m 13 #[.val (.int p1), .val (.int p2)] [(.int (1 : Int32))])) (fun _ kst => XS.iconst X0.here hx rfl (hb hby own_d4_12) kst) ?_
      refine own_retI X0 hx hlk hret (hb hby own_d4_13) ?_ (by decide) (by decide)
      exact ⟨(by show (some (.int (1 : Int32)) : Option Value) = _; unfold own_cmp; rw [if_neg hc14, if_pos hc15]), e0, rfl⟩
    · refine oS (u' := s₁.setTop (mkF m 14 #[.val (.int p1), .val (.int p2)] [])) (fun _ kst => XS.icmpYes X0.here hx rfl (pc0 := 9) (pc' := 14) rfl (hb hby own_d4_9) rfl (flt hc15).2.2.2 (by decide) (by decide) kst) ?_
      refine oS (u' := s₁.setTop (mkF m 15 #[.val (.int p1), .val (.int p2)] [(.int (0 : Int32))])) (fun _ kst => XS.iconst X0.here hx rfl (hb hby own_d4_14) kst) ?_
      refine own_retI X0 hx hlk hret (hb hby own_d4_15) ?_ (by decide) (by decide)
      exact ⟨(by show (some (.int (0 : Int32)) : Option Value) = _; unfold own_cmp; rw [if_neg hc14, if_neg hc15]), e0, rfl⟩
theorem own_d7_0 : decode method_2_code 0 = .ok (.iload_n 0, 1) := by decide +kernel
theorem own_d7_1 : decode method_2_code 1 = .ok (.ifCond .ge 5, 3) := by decide +kernel
theorem own_d7_4 : decode method_2_code 4 = .ok (.iconst (-1), 1) := by decide +kernel
theorem own_d7_5 : decode method_2_code 5 = .ok (.ireturn, 1) := by decide +kernel
theorem own_d7_6 : decode method_2_code 6 = .ok (.iload_n 0, 1) := by decide +kernel
theorem own_d7_7 : decode method_2_code 7 = .ok (.ifCond .le 5, 3) := by decide +kernel
theorem own_d7_10 : decode method_2_code 10 = .ok (.iconst 1, 1) := by decide +kernel
theorem own_d7_11 : decode method_2_code 11 = .ok (.ireturn, 1) := by decide +kernel
theorem own_d7_12 : decode method_2_code 12 = .ok (.iconst 0, 1) := by decide +kernel
theorem own_d7_13 : decode method_2_code 13 = .ok (.ireturn, 1) := by decide +kernel
theorem own_ef7 (m : MethodId) (x0 : Int32) : entryFrame m #[(.int x0)] 1 = mkF m 0 #[.val (.int x0)] [] := by first | (simp [entryFrame, mkF, argsToLocals, Value.category, maxLocals]; done) | rfl
def own_sign (p1 : Int32) : Int32 := (if p1 < (0 : Int32) then (-1 : Int32) else (if (0 : Int32) < p1 then (1 : Int32) else (0 : Int32)))
set_option maxRecDepth 65536 in
set_option maxHeartbeats 40000000 in
theorem own_rm_sign (l : Launch) (Z : State) (a0 : Array Value) (hw : ∀ d ∈ tables_1, d.before a0 Z = true) (p1 : Int32) (h0 : Heap) : own_Con l Z [] (⟨"com/example/demitasse/demitasse/source/PositionCompareToPinLaw", "sign", "(I)I"⟩ : MethodName) method_2_code 1 (some .int) ({ frames := 0, cells := 0, slots := 0, locals := 0 } : Room) #[(.int p1)] h0 (own_Q1 (some (.int (own_sign p1))) h0) := by
  refine own_body (plainFor_of_name own_pn_PositionCompareToPinLaw) ?_
  intro p e s m below meth c s₁ X0 hx hby hml hret hlk hown hnm hZ e0
  refine oS (u' := s₁.setTop (mkF m 0 #[.val (.int p1)] [])) (fun _ kst => castTop (own_ef7 m p1) kst) ?_
  refine oS (u' := s₁.setTop (mkF m 1 #[.val (.int p1)] [(.int p1)])) (fun _ kst => XS.iloadN X0.here hx rfl (hb hby own_d7_0) rfl kst) ?_
  by_cases hc16 : p1 < (0 : Int32)
  · refine oS (u' := s₁.setTop (mkF m 4 #[.val (.int p1)] [])) (fun _ kst => XS.ifNo X0.here hx rfl (hb hby own_d7_1) rfl ((if0 _ _).trans (tlt hc16).2.1) kst) ?_
    refine oS (u' := s₁.setTop (mkF m 5 #[.val (.int p1)] [(.int (-1 : Int32))])) (fun _ kst => XS.iconst X0.here hx rfl (hb hby own_d7_4) kst) ?_
    refine own_retI X0 hx hlk hret (hb hby own_d7_5) ?_ (by decide) (by decide)
    exact ⟨(by show (some (.int (-1 : Int32)) : Option Value) = _; unfold own_sign; rw [if_pos hc16]), e0, rfl⟩
  · refine oS (u' := s₁.setTop (mkF m 6 #[.val (.int p1)] [])) (fun _ kst => XS.ifYes X0.here hx rfl (pc0 := 1) (pc' := 6) rfl (hb hby own_d7_1) rfl ((if0 _ _).trans (flt hc16).2.1) (by decide) (by decide) kst) ?_
    refine oS (u' := s₁.setTop (mkF m 7 #[.val (.int p1)] [(.int p1)])) (fun _ kst => XS.iloadN X0.here hx rfl (hb hby own_d7_6) rfl kst) ?_
    by_cases hc17 : (0 : Int32) < p1
    · refine oS (u' := s₁.setTop (mkF m 10 #[.val (.int p1)] [])) (fun _ kst => XS.ifNo X0.here hx rfl (hb hby own_d7_7) rfl ((if0 _ _).trans (tlt hc17).2.2.2) kst) ?_
      refine oS (u' := s₁.setTop (mkF m 11 #[.val (.int p1)] [(.int (1 : Int32))])) (fun _ kst => XS.iconst X0.here hx rfl (hb hby own_d7_10) kst) ?_
      refine own_retI X0 hx hlk hret (hb hby own_d7_11) ?_ (by decide) (by decide)
      exact ⟨(by show (some (.int (1 : Int32)) : Option Value) = _; unfold own_sign; rw [if_neg hc16, if_pos hc17]), e0, rfl⟩
    · refine oS (u' := s₁.setTop (mkF m 12 #[.val (.int p1)] [])) (fun _ kst => XS.ifYes X0.here hx rfl (pc0 := 7) (pc' := 12) rfl (hb hby own_d7_7) rfl ((if0 _ _).trans (flt hc17).2.2.2) (by decide) (by decide) kst) ?_
      refine oS (u' := s₁.setTop (mkF m 13 #[.val (.int p1)] [(.int (0 : Int32))])) (fun _ kst => XS.iconst X0.here hx rfl (hb hby own_d7_12) kst) ?_
      refine own_retI X0 hx hlk hret (hb hby own_d7_13) ?_ (by decide) (by decide)
      exact ⟨(by show (some (.int (0 : Int32)) : Option Value) = _; unfold own_sign; rw [if_neg hc16, if_neg hc17]), e0, rfl⟩
def own_l2 (a b k : Int32) : Int32 := if (k &&& (1 : Int32)) = (0 : Int32) then b else a
def own_c2 (a b k : Int32) : Int32 := if (k &&& (2 : Int32)) = (0 : Int32) then b else a
theorem own_tri (x y : Int32) : (x < y ∧ ¬ y < x ∧ ¬ x = y ∧ ¬ y = x) ∨ (x = y) ∨ (y < x ∧ ¬ x < y ∧ ¬ x = y ∧ ¬ y = x) := by
  simp only [Int32.lt_iff_toInt_lt, ← Int32.toInt_inj]; omega
theorem own_irr (x : Int32) : ¬ x < x := by rw [Int32.lt_iff_toInt_lt]; omega
theorem own_cmp_lt {x y : Int32} (h : x < y) : own_cmp x y = -1 := by unfold own_cmp; rw [if_pos h]
theorem own_cmp_gt {x y : Int32} (h : y < x) (h' : ¬ x < y) : own_cmp x y = 1 := by unfold own_cmp; rw [if_neg h', if_pos h]
theorem own_cmp_eq (x : Int32) : own_cmp x x = 0 := by unfold own_cmp; rw [if_neg (own_irr x), if_neg (own_irr x)]
theorem own_icmp_lt {x y : Int32} (h : x < y) : own_icmp x y = -1 := by unfold own_icmp; rw [if_pos h]
theorem own_icmp_gt {x y : Int32} (h : ¬ x = y) (h' : ¬ x < y) : own_icmp x y = 1 := by unfold own_icmp; rw [if_neg h', if_neg h]
theorem own_icmp_eq (x : Int32) : own_icmp x x = 0 := by unfold own_icmp; rw [if_neg (own_irr x), if_pos rfl]
theorem own_same (x y : Int32) : own_icmp x y = own_cmp x y := by
  rcases own_tri x y with ⟨p, q, r, s⟩ | rfl | ⟨p, q, r, s⟩
  · rw [own_cmp_lt p, own_icmp_lt p]
  · rw [own_cmp_eq, own_icmp_eq]
  · rw [own_cmp_gt p q, own_icmp_gt r q]
theorem own_sgn (x y : Int32) : own_sign (own_cmp x y) = own_cmp x y := by
  rcases own_tri x y with ⟨p, q, r, s⟩ | rfl | ⟨p, q, r, s⟩
  · rw [own_cmp_lt p]; decide
  · rw [own_cmp_eq]; decide
  · rw [own_cmp_gt p q]; decide
theorem own_t1 {l1 c1 l2 c2 : Int32} (a b : Addr) (h : own_cmp l1 l2 = 0) : own_sign (own_cto a b l1 c1 l2 c2) = own_cmp c1 c2 := by
  unfold own_cto
  rw [own_same, own_same, if_pos h, own_sgn]
theorem own_t2 {l1 c1 l2 c2 : Int32} (a b : Addr) (h : ¬ own_cmp l1 l2 = 0) : own_sign (own_cto a b l1 c1 l2 c2) = own_cmp l1 l2 := by
  unfold own_cto
  rw [own_same, own_same, if_neg h, own_sgn]
theorem own_anti (x y : Int32) : own_cmp y x = - own_cmp x y := by
  rcases own_tri x y with ⟨p, q, r, s⟩ | rfl | ⟨p, q, r, s⟩
  · rw [own_cmp_lt p, own_cmp_gt p q]; decide
  · rw [own_cmp_eq]; decide
  · rw [own_cmp_gt p q, own_cmp_lt p]
theorem own_sym {x y : Int32} (h : own_cmp x y = 0) : own_cmp y x = 0 := by rw [own_anti, h]; rfl
theorem own_symn {x y : Int32} (h : ¬ own_cmp x y = 0) : ¬ own_cmp y x = 0 := fun q => h (own_sym q)
theorem own_ef0 (m : MethodId) (x0 : Int32) (x1 : Int32) (x2 : Int32) (x3 : Int32) (x4 : Int32) : entryFrame m #[(.int x0), (.int x1), (.int x2), (.int x3), (.int x4)] maxLocals = mkF m 0 #[.val (.int x0), .val (.int x1), .val (.int x2), .val (.int x3), .val (.int x4), .unset, .unset, .unset, .unset, .unset, .unset, .unset] [] := by first | (simp [entryFrame, mkF, argsToLocals, Value.category, maxLocals]; done) | rfl
theorem own_pd2 : parseMethodDescriptor "(II)V" = some ⟨[.int, .int], none⟩ := by decide +kernel
theorem own_pd3 : parseMethodDescriptor "(Lcom/example/demitasse/demitasse/source/Position;)I" = some ⟨[(.object "com/example/demitasse/demitasse/source/Position")], some .int⟩ := by decide +kernel
theorem own_pd4 : parseMethodDescriptor "(I)I" = some ⟨[.int], some .int⟩ := by decide +kernel
set_option maxRecDepth 65536 in
set_option maxHeartbeats 40000000 in
theorem own_law (l : Launch) (Z : State) (a0 : Array Value) (hw : ∀ d ∈ tables_1, d.before a0 Z = true) (p1 : Int32) (p2 : Int32) (p3 : Int32) (p4 : Int32) (p5 : Int32) (h0 : Heap) (n0 : Nat) (Z0 : n0 ≤ h0.size) : own_Con l Z tables_1 x code maxLocals ret room_1 #[(.int p1), (.int p2), (.int p3), (.int p4), (.int p5)] h0 (fun v _ L => v = some (.int (1 : Int32)) ∧ Fr n0 L) := by
  refine own_body (plainFor_of_name own_pn_PositionCompareToPinLaw) ?_
  intro p e s m below meth c s₁ X0 hx hby hml hret hlk hown hnm hZ e0
  have N0 := Fr.nil n0
  refine oS (u' := s₁.setTop (mkF m 0 #[.val (.int p1), .val (.int p2), .val (.int p3), .val (.int p4), .val (.int p5), .unset, .unset, .unset, .unset, .unset, .unset, .unset] [])) (fun _ kst => castTop (own_ef0 m p1 p2 p3 p4 p5) kst) ?_
  refine oS (u' := s₁.setTop (mkF m 1 #[.val (.int p1), .val (.int p2), .val (.int p3), .val (.int p4), .val (.int p5), .unset, .unset, .unset, .unset, .unset, .unset, .unset] [(.int p3)])) (fun _ kst => XS.iloadN X0.here hx rfl (hb hby at_0) rfl kst) ?_
  refine oS (u' := s₁.setTop (mkF m 3 #[.val (.int p1), .val (.int p2), .val (.int p3), .val (.int p4), .val (.int p5), .val (.int p3), .unset, .unset, .unset, .unset, .unset, .unset] [])) (fun _ kst => XS.istore X0.here hx rfl (hb hby at_1) rfl (l' := #[.val (.int p1), .val (.int p2), .val (.int p3), .val (.int p4), .val (.int p5), .val (.int p3), .unset, .unset, .unset, .unset, .unset, .unset]) rfl kst) ?_
  refine oS (u' := s₁.setTop (mkF m 4 #[.val (.int p1), .val (.int p2), .val (.int p3), .val (.int p4), .val (.int p5), .val (.int p3), .unset, .unset, .unset, .unset, .unset, .unset] [(.int p4)])) (fun _ kst => XS.iloadN X0.here hx rfl (hb hby at_3) rfl kst) ?_
  refine oS (u' := s₁.setTop (mkF m 6 #[.val (.int p1), .val (.int p2), .val (.int p3), .val (.int p4), .val (.int p5), .val (.int p3), .val (.int p4), .unset, .unset, .unset, .unset, .unset] [])) (fun _ kst => XS.istore X0.here hx rfl (hb hby at_4) rfl (l' := #[.val (.int p1), .val (.int p2), .val (.int p3), .val (.int p4), .val (.int p5), .val (.int p3), .val (.int p4), .unset, .unset, .unset, .unset, .unset]) rfl kst) ?_
  refine oS (u' := s₁.setTop (mkF m 8 #[.val (.int p1), .val (.int p2), .val (.int p3), .val (.int p4), .val (.int p5), .val (.int p3), .val (.int p4), .unset, .unset, .unset, .unset, .unset] [(.int p5)])) (fun _ kst => XS.iload X0.here hx rfl (hb hby at_6) rfl kst) ?_
  refine oS (u' := s₁.setTop (mkF m 9 #[.val (.int p1), .val (.int p2), .val (.int p3), .val (.int p4), .val (.int p5), .val (.int p3), .val (.int p4), .unset, .unset, .unset, .unset, .unset] [(.int (1 : Int32)), (.int p5)])) (fun _ kst => XS.iconst X0.here hx rfl (hb hby at_8) kst) ?_
  refine oS (u' := s₁.setTop (mkF m 10 #[.val (.int p1), .val (.int p2), .val (.int p3), .val (.int p4), .val (.int p5), .val (.int p3), .val (.int p4), .unset, .unset, .unset, .unset, .unset] [(.int (p5 &&& (1 : Int32)))])) (fun _ kst => XS.iand X0.here hx rfl (hb hby at_9) rfl kst) ?_
  have km19 : ∀ t, Steps p.tables e below (s₁.setTop (mkF m 16 #[.val (.int p1), .val (.int p2), .val (.int p3), .val (.int p4), .val (.int p5), .val (.int (if (p5 &&& (1 : Int32)) = (0 : Int32) then p3 else p1)), .val (.int p4), .unset, .unset, .unset, .unset, .unset] [])) t → Steps p.tables e below (s₁.setTop (mkF m 10 #[.val (.int p1), .val (.int p2), .val (.int p3), .val (.int p4), .val (.int p5), .val (.int p3), .val (.int p4), .unset, .unset, .unset, .unset, .unset] [(.int (p5 &&& (1 : Int32)))])) t := by
    intro tgt kst
    by_cases hc18 : (p5 &&& (1 : Int32)) = (0 : Int32)
    · rw [show (if (p5 &&& (1 : Int32)) = (0 : Int32) then p3 else p1) = p3 from if_pos hc18] at kst
      refine XS.ifYes X0.here hx rfl (pc0 := 10) (pc' := 16) rfl (hb hby at_10) rfl ((if0 _ _).trans (teq hc18).1) (by decide) (by decide) ?_
      show Steps p.tables e below (s₁.setTop (mkF m 16 #[.val (.int p1), .val (.int p2), .val (.int p3), .val (.int p4), .val (.int p5), .val (.int p3), .val (.int p4), .unset, .unset, .unset, .unset, .unset] [])) _
      exact kst
    · rw [show (if (p5 &&& (1 : Int32)) = (0 : Int32) then p3 else p1) = p1 from if_neg hc18] at kst
      refine XS.ifNo X0.here hx rfl (hb hby at_10) rfl ((if0 _ _).trans (feq hc18).1) ?_
      show Steps p.tables e below (s₁.setTop (mkF m 13 #[.val (.int p1), .val (.int p2), .val (.int p3), .val (.int p4), .val (.int p5), .val (.int p3), .val (.int p4), .unset, .unset, .unset, .unset, .unset] [])) _
      refine XS.iloadN X0.here hx rfl (hb hby at_13) rfl ?_
      show Steps p.tables e below (s₁.setTop (mkF m 14 #[.val (.int p1), .val (.int p2), .val (.int p3), .val (.int p4), .val (.int p5), .val (.int p3), .val (.int p4), .unset, .unset, .unset, .unset, .unset] [(.int p1)])) _
      refine XS.istore X0.here hx rfl (hb hby at_14) rfl (l' := #[.val (.int p1), .val (.int p2), .val (.int p3), .val (.int p4), .val (.int p5), .val (.int p1), .val (.int p4), .unset, .unset, .unset, .unset, .unset]) rfl ?_
      show Steps p.tables e below (s₁.setTop (mkF m 16 #[.val (.int p1), .val (.int p2), .val (.int p3), .val (.int p4), .val (.int p5), .val (.int p1), .val (.int p4), .unset, .unset, .unset, .unset, .unset] [])) _
      exact kst
  refine oS (u' := s₁.setTop (mkF m 16 #[.val (.int p1), .val (.int p2), .val (.int p3), .val (.int p4), .val (.int p5), .val (.int (own_l2 p1 p3 p5)), .val (.int p4), .unset, .unset, .unset, .unset, .unset] [])) km19 ?_
  refine oS (u' := s₁.setTop (mkF m 18 #[.val (.int p1), .val (.int p2), .val (.int p3), .val (.int p4), .val (.int p5), .val (.int (own_l2 p1 p3 p5)), .val (.int p4), .unset, .unset, .unset, .unset, .unset] [(.int p5)])) (fun _ kst => XS.iload X0.here hx rfl (hb hby at_16) rfl kst) ?_
  refine oS (u' := s₁.setTop (mkF m 19 #[.val (.int p1), .val (.int p2), .val (.int p3), .val (.int p4), .val (.int p5), .val (.int (own_l2 p1 p3 p5)), .val (.int p4), .unset, .unset, .unset, .unset, .unset] [(.int (2 : Int32)), (.int p5)])) (fun _ kst => XS.iconst X0.here hx rfl (hb hby at_18) kst) ?_
  refine oS (u' := s₁.setTop (mkF m 20 #[.val (.int p1), .val (.int p2), .val (.int p3), .val (.int p4), .val (.int p5), .val (.int (own_l2 p1 p3 p5)), .val (.int p4), .unset, .unset, .unset, .unset, .unset] [(.int (p5 &&& (2 : Int32)))])) (fun _ kst => XS.iand X0.here hx rfl (hb hby at_19) rfl kst) ?_
  have km21 : ∀ t, Steps p.tables e below (s₁.setTop (mkF m 26 #[.val (.int p1), .val (.int p2), .val (.int p3), .val (.int p4), .val (.int p5), .val (.int (own_l2 p1 p3 p5)), .val (.int (if (p5 &&& (2 : Int32)) = (0 : Int32) then p4 else p2)), .unset, .unset, .unset, .unset, .unset] [])) t → Steps p.tables e below (s₁.setTop (mkF m 20 #[.val (.int p1), .val (.int p2), .val (.int p3), .val (.int p4), .val (.int p5), .val (.int (own_l2 p1 p3 p5)), .val (.int p4), .unset, .unset, .unset, .unset, .unset] [(.int (p5 &&& (2 : Int32)))])) t := by
    intro tgt kst
    by_cases hc20 : (p5 &&& (2 : Int32)) = (0 : Int32)
    · rw [show (if (p5 &&& (2 : Int32)) = (0 : Int32) then p4 else p2) = p4 from if_pos hc20] at kst
      refine XS.ifYes X0.here hx rfl (pc0 := 20) (pc' := 26) rfl (hb hby at_20) rfl ((if0 _ _).trans (teq hc20).1) (by decide) (by decide) ?_
      show Steps p.tables e below (s₁.setTop (mkF m 26 #[.val (.int p1), .val (.int p2), .val (.int p3), .val (.int p4), .val (.int p5), .val (.int (own_l2 p1 p3 p5)), .val (.int p4), .unset, .unset, .unset, .unset, .unset] [])) _
      exact kst
    · rw [show (if (p5 &&& (2 : Int32)) = (0 : Int32) then p4 else p2) = p2 from if_neg hc20] at kst
      refine XS.ifNo X0.here hx rfl (hb hby at_20) rfl ((if0 _ _).trans (feq hc20).1) ?_
      show Steps p.tables e below (s₁.setTop (mkF m 23 #[.val (.int p1), .val (.int p2), .val (.int p3), .val (.int p4), .val (.int p5), .val (.int (own_l2 p1 p3 p5)), .val (.int p4), .unset, .unset, .unset, .unset, .unset] [])) _
      refine XS.iloadN X0.here hx rfl (hb hby at_23) rfl ?_
      show Steps p.tables e below (s₁.setTop (mkF m 24 #[.val (.int p1), .val (.int p2), .val (.int p3), .val (.int p4), .val (.int p5), .val (.int (own_l2 p1 p3 p5)), .val (.int p4), .unset, .unset, .unset, .unset, .unset] [(.int p2)])) _
      refine XS.istore X0.here hx rfl (hb hby at_24) rfl (l' := #[.val (.int p1), .val (.int p2), .val (.int p3), .val (.int p4), .val (.int p5), .val (.int (own_l2 p1 p3 p5)), .val (.int p2), .unset, .unset, .unset, .unset, .unset]) rfl ?_
      show Steps p.tables e below (s₁.setTop (mkF m 26 #[.val (.int p1), .val (.int p2), .val (.int p3), .val (.int p4), .val (.int p5), .val (.int (own_l2 p1 p3 p5)), .val (.int p2), .unset, .unset, .unset, .unset, .unset] [])) _
      exact kst
  refine oS (u' := s₁.setTop (mkF m 26 #[.val (.int p1), .val (.int p2), .val (.int p3), .val (.int p4), .val (.int p5), .val (.int (own_l2 p1 p3 p5)), .val (.int (own_c2 p2 p4 p5)), .unset, .unset, .unset, .unset, .unset] [])) km21 ?_
  obtain ⟨T22, h22, X22, e22, E22, A22, D22, -, st22⟩ := newO X0 hx hZ hown (hw _ (List.mem_of_getElem? (i := 0) rfl)) (hw _ (List.mem_of_getElem? (i := 1) rfl)) (hw _ (List.mem_of_getElem? (i := 2) rfl)) e0 (g := (mkF m 26 #[.val (.int p1), .val (.int p2), .val (.int p3), .val (.int p4), .val (.int p5), .val (.int (own_l2 p1 p3 p5)), .val (.int (own_c2 p2 p4 p5)), .unset, .unset, .unset, .unset, .unset] [])) rfl (hb hby at_26) (by decide) (by decide)
  obtain ⟨b22, g22⟩ : ∃ z, z = h0.size := ⟨_, rfl⟩
  rw [← g22] at A22 D22 st22
  have gb_b22 : n0 ≤ b22 := Nat.le_trans Z0 (Nat.le_of_eq g22.symm)
  have Z22 := Nat.le_trans Z0 E22.1
  have f22_F_line : Fld Z h22 b22 "com/example/demitasse/demitasse/source/Position" "line" "I" (.int (0 : Int32)) := D22 (Or.inr (hw _ (List.mem_of_getElem? (i := 15) rfl))) (ty := .int) (by decide)
  have f22_F_column : Fld Z h22 b22 "com/example/demitasse/demitasse/source/Position" "column" "I" (.int (0 : Int32)) := D22 (Or.inr (hw _ (List.mem_of_getElem? (i := 17) rfl))) (ty := .int) (by decide)
  refine oS (u' := T22.setTop (mkF m 29 #[.val (.int p1), .val (.int p2), .val (.int p3), .val (.int p4), .val (.int p5), .val (.int (own_l2 p1 p3 p5)), .val (.int (own_c2 p2 p4 p5)), .unset, .unset, .unset, .unset, .unset] [(.ref b22)])) st22 ?_
  refine oS (u' := T22.setTop (mkF m 30 #[.val (.int p1), .val (.int p2), .val (.int p3), .val (.int p4), .val (.int p5), .val (.int (own_l2 p1 p3 p5)), .val (.int (own_c2 p2 p4 p5)), .unset, .unset, .unset, .unset, .unset] [(.ref b22), (.ref b22)])) (fun _ kst => XS.dup X22.here hx rfl (hb hby at_29) rfl rfl kst) ?_
  refine oS (u' := T22.setTop (mkF m 31 #[.val (.int p1), .val (.int p2), .val (.int p3), .val (.int p4), .val (.int p5), .val (.int (own_l2 p1 p3 p5)), .val (.int (own_c2 p2 p4 p5)), .unset, .unset, .unset, .unset, .unset] [(.int p1), (.ref b22), (.ref b22)])) (fun _ kst => XS.iloadN X22.here hx rfl (hb hby at_30) rfl kst) ?_
  refine oS (u' := T22.setTop (mkF m 32 #[.val (.int p1), .val (.int p2), .val (.int p3), .val (.int p4), .val (.int p5), .val (.int (own_l2 p1 p3 p5)), .val (.int (own_c2 p2 p4 p5)), .unset, .unset, .unset, .unset, .unset] [(.int p2), (.int p1), (.ref b22), (.ref b22)])) (fun _ kst => XS.iloadN X22.here hx rfl (hb hby at_31) rfl kst) ?_
  obtain ⟨v23, T23, L23, X23, hQ23, st23⟩ := own_callI X22 hx hZ (y := (⟨"com/example/demitasse/demitasse/source/Position", "<init>", "(II)V"⟩ : MethodName)) rfl hown (hw _ (List.mem_of_getElem? (i := 3) rfl)) (hw _ (List.mem_of_getElem? (i := 4) rfl)) (hw _ (List.mem_of_getElem? (i := 5) rfl)) (hw _ (List.mem_of_getElem? (i := 2) rfl)) (by decide) e22 (W := 1) (own_rm_posinit l Z a0 hw b22 p1 p2 h22 n0 Z22 A22 f22_F_line f22_F_column gb_b22) (by decide) (by decide) (g := (mkF m 32 #[.val (.int p1), .val (.int p2), .val (.int p3), .val (.int p4), .val (.int p5), .val (.int (own_l2 p1 p3 p5)), .val (.int (own_c2 p2 p4 p5)), .unset, .unset, .unset, .unset, .unset] [(.int p2), (.int p1), (.ref b22), (.ref b22)])) rfl (by rw [hml]; rfl) (a := b22) (argsL := [(.int p1), (.int p2)]) (rest := [(.ref b22)]) (lenOf own_pd2 rfl) rfl (by show 2 * 0 + _ ≤ _; exact Nat.le_of_eq rfl) (hb hby at_32) (by decide) (by decide)
  obtain ⟨rfl, Nq23, Kq23, Fl23, Fc23⟩ := hQ23
  have f23_E_b22 := A22.keep Kq23
  have Z23 := Nat.le_trans Z22 Kq23.1
  have N23 := Fr.app N0 Nq23
  refine oS (u' := T23.setTop (mkF m 35 #[.val (.int p1), .val (.int p2), .val (.int p3), .val (.int p4), .val (.int p5), .val (.int (own_l2 p1 p3 p5)), .val (.int (own_c2 p2 p4 p5)), .unset, .unset, .unset, .unset, .unset] [(.ref b22)])) st23 ?_
  refine oS (u' := T23.setTop (mkF m 37 #[.val (.int p1), .val (.int p2), .val (.int p3), .val (.int p4), .val (.int p5), .val (.int (own_l2 p1 p3 p5)), .val (.int (own_c2 p2 p4 p5)), .val (.ref b22), .unset, .unset, .unset, .unset] [])) (fun _ kst => XS.astore X23.here hx rfl (hb hby at_35) rfl rfl (l' := #[.val (.int p1), .val (.int p2), .val (.int p3), .val (.int p4), .val (.int p5), .val (.int (own_l2 p1 p3 p5)), .val (.int (own_c2 p2 p4 p5)), .val (.ref b22), .unset, .unset, .unset, .unset]) rfl kst) ?_
  obtain ⟨T24, h24, X24, e24, E24, A24, D24, -, st24⟩ := newO X23 hx hZ hown (hw _ (List.mem_of_getElem? (i := 0) rfl)) (hw _ (List.mem_of_getElem? (i := 1) rfl)) (hw _ (List.mem_of_getElem? (i := 2) rfl)) rfl (g := (mkF m 37 #[.val (.int p1), .val (.int p2), .val (.int p3), .val (.int p4), .val (.int p5), .val (.int (own_l2 p1 p3 p5)), .val (.int (own_c2 p2 p4 p5)), .val (.ref b22), .unset, .unset, .unset, .unset] [])) rfl (hb hby at_37) (by decide) (by decide)
  obtain ⟨b24, g24⟩ : ∃ z, z = T23.heap.size := ⟨_, rfl⟩
  rw [← g24] at A24 D24 st24
  have ne_b22_b24 : b22 ≠ b24 := Nat.ne_of_lt (Nat.lt_of_lt_of_le (f23_E_b22).lt (Nat.le_of_eq g24.symm))
  have f24_E_b22 := f23_E_b22.ext E24
  have f24_F_b22_line := Fl23.ext E24
  have f24_F_b22_column := Fc23.ext E24
  have gb_b24 : n0 ≤ b24 := Nat.le_trans Z23 (Nat.le_of_eq g24.symm)
  have Z24 := Nat.le_trans Z23 E24.1
  have f24_F_line : Fld Z h24 b24 "com/example/demitasse/demitasse/source/Position" "line" "I" (.int (0 : Int32)) := D24 (Or.inr (hw _ (List.mem_of_getElem? (i := 15) rfl))) (ty := .int) (by decide)
  have f24_F_column : Fld Z h24 b24 "com/example/demitasse/demitasse/source/Position" "column" "I" (.int (0 : Int32)) := D24 (Or.inr (hw _ (List.mem_of_getElem? (i := 17) rfl))) (ty := .int) (by decide)
  refine oS (u' := T24.setTop (mkF m 40 #[.val (.int p1), .val (.int p2), .val (.int p3), .val (.int p4), .val (.int p5), .val (.int (own_l2 p1 p3 p5)), .val (.int (own_c2 p2 p4 p5)), .val (.ref b22), .unset, .unset, .unset, .unset] [(.ref b24)])) st24 ?_
  refine oS (u' := T24.setTop (mkF m 41 #[.val (.int p1), .val (.int p2), .val (.int p3), .val (.int p4), .val (.int p5), .val (.int (own_l2 p1 p3 p5)), .val (.int (own_c2 p2 p4 p5)), .val (.ref b22), .unset, .unset, .unset, .unset] [(.ref b24), (.ref b24)])) (fun _ kst => XS.dup X24.here hx rfl (hb hby at_40) rfl rfl kst) ?_
  refine oS (u' := T24.setTop (mkF m 43 #[.val (.int p1), .val (.int p2), .val (.int p3), .val (.int p4), .val (.int p5), .val (.int (own_l2 p1 p3 p5)), .val (.int (own_c2 p2 p4 p5)), .val (.ref b22), .unset, .unset, .unset, .unset] [(.int (own_l2 p1 p3 p5)), (.ref b24), (.ref b24)])) (fun _ kst => XS.iload X24.here hx rfl (hb hby at_41) rfl kst) ?_
  refine oS (u' := T24.setTop (mkF m 45 #[.val (.int p1), .val (.int p2), .val (.int p3), .val (.int p4), .val (.int p5), .val (.int (own_l2 p1 p3 p5)), .val (.int (own_c2 p2 p4 p5)), .val (.ref b22), .unset, .unset, .unset, .unset] [(.int (own_c2 p2 p4 p5)), (.int (own_l2 p1 p3 p5)), (.ref b24), (.ref b24)])) (fun _ kst => XS.iload X24.here hx rfl (hb hby at_43) rfl kst) ?_
  obtain ⟨v25, T25, L25, X25, hQ25, st25⟩ := own_callI X24 hx hZ (y := (⟨"com/example/demitasse/demitasse/source/Position", "<init>", "(II)V"⟩ : MethodName)) rfl hown (hw _ (List.mem_of_getElem? (i := 3) rfl)) (hw _ (List.mem_of_getElem? (i := 4) rfl)) (hw _ (List.mem_of_getElem? (i := 5) rfl)) (hw _ (List.mem_of_getElem? (i := 2) rfl)) (by decide) e24 (W := 1) (own_rm_posinit l Z a0 hw b24 (own_l2 p1 p3 p5) (own_c2 p2 p4 p5) h24 n0 Z24 A24 f24_F_line f24_F_column gb_b24) (by decide) (by decide) (g := (mkF m 45 #[.val (.int p1), .val (.int p2), .val (.int p3), .val (.int p4), .val (.int p5), .val (.int (own_l2 p1 p3 p5)), .val (.int (own_c2 p2 p4 p5)), .val (.ref b22), .unset, .unset, .unset, .unset] [(.int (own_c2 p2 p4 p5)), (.int (own_l2 p1 p3 p5)), (.ref b24), (.ref b24)])) rfl (by rw [hml]; rfl) (a := b24) (argsL := [(.int (own_l2 p1 p3 p5)), (.int (own_c2 p2 p4 p5))]) (rest := [(.ref b24)]) (lenOf own_pd2 rfl) rfl (by show 2 * 0 + _ ≤ _; exact Nat.le_of_eq rfl) (hb hby at_45) (by decide) (by decide)
  obtain ⟨rfl, Nq25, Kq25, Fl25, Fc25⟩ := hQ25
  have f25_E_b22 := f24_E_b22.keep Kq25
  have f25_F_b22_line := f24_F_b22_line.keep Kq25 (ninS ne_b22_b24 nin0)
  have f25_F_b22_column := f24_F_b22_column.keep Kq25 (ninS ne_b22_b24 nin0)
  have f25_E_b24 := A24.keep Kq25
  have Z25 := Nat.le_trans Z24 Kq25.1
  have N25 := Fr.app N23 Nq25
  refine oS (u' := T25.setTop (mkF m 48 #[.val (.int p1), .val (.int p2), .val (.int p3), .val (.int p4), .val (.int p5), .val (.int (own_l2 p1 p3 p5)), .val (.int (own_c2 p2 p4 p5)), .val (.ref b22), .unset, .unset, .unset, .unset] [(.ref b24)])) st25 ?_
  refine oS (u' := T25.setTop (mkF m 50 #[.val (.int p1), .val (.int p2), .val (.int p3), .val (.int p4), .val (.int p5), .val (.int (own_l2 p1 p3 p5)), .val (.int (own_c2 p2 p4 p5)), .val (.ref b22), .val (.ref b24), .unset, .unset, .unset] [])) (fun _ kst => XS.astore X25.here hx rfl (hb hby at_48) rfl rfl (l' := #[.val (.int p1), .val (.int p2), .val (.int p3), .val (.int p4), .val (.int p5), .val (.int (own_l2 p1 p3 p5)), .val (.int (own_c2 p2 p4 p5)), .val (.ref b22), .val (.ref b24), .unset, .unset, .unset]) rfl kst) ?_
  refine oS (u' := T25.setTop (mkF m 51 #[.val (.int p1), .val (.int p2), .val (.int p3), .val (.int p4), .val (.int p5), .val (.int (own_l2 p1 p3 p5)), .val (.int (own_c2 p2 p4 p5)), .val (.ref b22), .val (.ref b24), .unset, .unset, .unset] [(.int p1)])) (fun _ kst => XS.iloadN X25.here hx rfl (hb hby at_50) rfl kst) ?_
  refine oS (u' := T25.setTop (mkF m 53 #[.val (.int p1), .val (.int p2), .val (.int p3), .val (.int p4), .val (.int p5), .val (.int (own_l2 p1 p3 p5)), .val (.int (own_c2 p2 p4 p5)), .val (.ref b22), .val (.ref b24), .unset, .unset, .unset] [(.int (own_l2 p1 p3 p5)), (.int p1)])) (fun _ kst => XS.iload X25.here hx rfl (hb hby at_51) rfl kst) ?_
  obtain ⟨T26, X26, e26, st26⟩ := own_callSP X25 hx hZ (y := (⟨"com/example/demitasse/demitasse/source/PositionCompareToPinLaw", "cmp", "(II)I"⟩ : MethodName)) hown (hw _ (List.mem_of_getElem? (i := 18) rfl)) (hw _ (List.mem_of_getElem? (i := 19) rfl)) (hw _ (List.mem_of_getElem? (i := 21) rfl)) (hw _ (List.mem_of_getElem? (i := 20) rfl)) (by decide) rfl (W := 0) (own_rm_cmp l Z a0 hw p1 (own_l2 p1 p3 p5) T25.heap ) (by decide) (by decide) (g := (mkF m 53 #[.val (.int p1), .val (.int p2), .val (.int p3), .val (.int p4), .val (.int p5), .val (.int (own_l2 p1 p3 p5)), .val (.int (own_c2 p2 p4 p5)), .val (.ref b22), .val (.ref b24), .unset, .unset, .unset] [(.int (own_l2 p1 p3 p5)), (.int p1)])) rfl (by rw [hml]; rfl) (argsL := [(.int p1), (.int (own_l2 p1 p3 p5))]) (rest := []) (lenOf own_pd1 rfl) rfl (by show 2 * 0 + _ ≤ _; exact Nat.le_of_eq rfl) (hb hby at_53) (by decide) (by decide)
  refine oS (u' := T26.setTop (mkF m 56 #[.val (.int p1), .val (.int p2), .val (.int p3), .val (.int p4), .val (.int p5), .val (.int (own_l2 p1 p3 p5)), .val (.int (own_c2 p2 p4 p5)), .val (.ref b22), .val (.ref b24), .unset, .unset, .unset] [(.int (own_cmp p1 (own_l2 p1 p3 p5)))])) st26 ?_
  refine oS (u' := T26.setTop (mkF m 58 #[.val (.int p1), .val (.int p2), .val (.int p3), .val (.int p4), .val (.int p5), .val (.int (own_l2 p1 p3 p5)), .val (.int (own_c2 p2 p4 p5)), .val (.ref b22), .val (.ref b24), .val (.int (own_cmp p1 (own_l2 p1 p3 p5))), .unset, .unset] [])) (fun _ kst => XS.istore X26.here hx rfl (hb hby at_56) rfl (l' := #[.val (.int p1), .val (.int p2), .val (.int p3), .val (.int p4), .val (.int p5), .val (.int (own_l2 p1 p3 p5)), .val (.int (own_c2 p2 p4 p5)), .val (.ref b22), .val (.ref b24), .val (.int (own_cmp p1 (own_l2 p1 p3 p5))), .unset, .unset]) rfl kst) ?_
  refine oS (u' := T26.setTop (mkF m 60 #[.val (.int p1), .val (.int p2), .val (.int p3), .val (.int p4), .val (.int p5), .val (.int (own_l2 p1 p3 p5)), .val (.int (own_c2 p2 p4 p5)), .val (.ref b22), .val (.ref b24), .val (.int (own_cmp p1 (own_l2 p1 p3 p5))), .unset, .unset] [(.int (own_cmp p1 (own_l2 p1 p3 p5)))])) (fun _ kst => XS.iload X26.here hx rfl (hb hby at_58) rfl kst) ?_
  by_cases hc27 : (own_cmp p1 (own_l2 p1 p3 p5)) = (0 : Int32)
  · refine oS (u' := T26.setTop (mkF m 63 #[.val (.int p1), .val (.int p2), .val (.int p3), .val (.int p4), .val (.int p5), .val (.int (own_l2 p1 p3 p5)), .val (.int (own_c2 p2 p4 p5)), .val (.ref b22), .val (.ref b24), .val (.int (own_cmp p1 (own_l2 p1 p3 p5))), .unset, .unset] [])) (fun _ kst => XS.ifNo X26.here hx rfl (hb hby at_60) rfl ((if0 _ _).trans (teq hc27).2) kst) ?_
    refine oS (u' := T26.setTop (mkF m 64 #[.val (.int p1), .val (.int p2), .val (.int p3), .val (.int p4), .val (.int p5), .val (.int (own_l2 p1 p3 p5)), .val (.int (own_c2 p2 p4 p5)), .val (.ref b22), .val (.ref b24), .val (.int (own_cmp p1 (own_l2 p1 p3 p5))), .unset, .unset] [(.int p2)])) (fun _ kst => XS.iloadN X26.here hx rfl (hb hby at_63) rfl kst) ?_
    refine oS (u' := T26.setTop (mkF m 66 #[.val (.int p1), .val (.int p2), .val (.int p3), .val (.int p4), .val (.int p5), .val (.int (own_l2 p1 p3 p5)), .val (.int (own_c2 p2 p4 p5)), .val (.ref b22), .val (.ref b24), .val (.int (own_cmp p1 (own_l2 p1 p3 p5))), .unset, .unset] [(.int (own_c2 p2 p4 p5)), (.int p2)])) (fun _ kst => XS.iload X26.here hx rfl (hb hby at_64) rfl kst) ?_
    obtain ⟨T28, X28, e28, st28⟩ := own_callSP X26 hx hZ (y := (⟨"com/example/demitasse/demitasse/source/PositionCompareToPinLaw", "cmp", "(II)I"⟩ : MethodName)) hown (hw _ (List.mem_of_getElem? (i := 18) rfl)) (hw _ (List.mem_of_getElem? (i := 19) rfl)) (hw _ (List.mem_of_getElem? (i := 21) rfl)) (hw _ (List.mem_of_getElem? (i := 20) rfl)) (by decide) e26 (W := 0) (own_rm_cmp l Z a0 hw p2 (own_c2 p2 p4 p5) T25.heap ) (by decide) (by decide) (g := (mkF m 66 #[.val (.int p1), .val (.int p2), .val (.int p3), .val (.int p4), .val (.int p5), .val (.int (own_l2 p1 p3 p5)), .val (.int (own_c2 p2 p4 p5)), .val (.ref b22), .val (.ref b24), .val (.int (own_cmp p1 (own_l2 p1 p3 p5))), .unset, .unset] [(.int (own_c2 p2 p4 p5)), (.int p2)])) rfl (by rw [hml]; rfl) (argsL := [(.int p2), (.int (own_c2 p2 p4 p5))]) (rest := []) (lenOf own_pd1 rfl) rfl (by show 2 * 0 + _ ≤ _; exact Nat.le_of_eq rfl) (hb hby at_66) (by decide) (by decide)
    refine oS (u' := T28.setTop (mkF m 69 #[.val (.int p1), .val (.int p2), .val (.int p3), .val (.int p4), .val (.int p5), .val (.int (own_l2 p1 p3 p5)), .val (.int (own_c2 p2 p4 p5)), .val (.ref b22), .val (.ref b24), .val (.int (own_cmp p1 (own_l2 p1 p3 p5))), .unset, .unset] [(.int (own_cmp p2 (own_c2 p2 p4 p5)))])) st28 ?_
    refine oS (u' := T28.setTop (mkF m 71 #[.val (.int p1), .val (.int p2), .val (.int p3), .val (.int p4), .val (.int p5), .val (.int (own_l2 p1 p3 p5)), .val (.int (own_c2 p2 p4 p5)), .val (.ref b22), .val (.ref b24), .val (.int (own_cmp p2 (own_c2 p2 p4 p5))), .unset, .unset] [])) (fun _ kst => XS.istore X28.here hx rfl (hb hby at_69) rfl (l' := #[.val (.int p1), .val (.int p2), .val (.int p3), .val (.int p4), .val (.int p5), .val (.int (own_l2 p1 p3 p5)), .val (.int (own_c2 p2 p4 p5)), .val (.ref b22), .val (.ref b24), .val (.int (own_cmp p2 (own_c2 p2 p4 p5))), .unset, .unset]) rfl kst) ?_
    refine oS (u' := T28.setTop (mkF m 73 #[.val (.int p1), .val (.int p2), .val (.int p3), .val (.int p4), .val (.int p5), .val (.int (own_l2 p1 p3 p5)), .val (.int (own_c2 p2 p4 p5)), .val (.ref b22), .val (.ref b24), .val (.int (own_cmp p2 (own_c2 p2 p4 p5))), .unset, .unset] [(.ref b22)])) (fun _ kst => XS.aload X28.here hx rfl (hb hby at_71) rfl rfl kst) ?_
    refine oS (u' := T28.setTop (mkF m 75 #[.val (.int p1), .val (.int p2), .val (.int p3), .val (.int p4), .val (.int p5), .val (.int (own_l2 p1 p3 p5)), .val (.int (own_c2 p2 p4 p5)), .val (.ref b22), .val (.ref b24), .val (.int (own_cmp p2 (own_c2 p2 p4 p5))), .unset, .unset] [(.ref b24), (.ref b22)])) (fun _ kst => XS.aload X28.here hx rfl (hb hby at_73) rfl rfl kst) ?_
    obtain ⟨T29, X29, e29, st29⟩ := own_callVP X28 hx hZ (y := (⟨"com/example/demitasse/demitasse/source/Position", "compareTo", "(Lcom/example/demitasse/demitasse/source/Position;)I"⟩ : MethodName)) (z := (⟨"com/example/demitasse/demitasse/source/Position", "compareTo", "(Lcom/example/demitasse/demitasse/source/Position;)I"⟩ : MethodName)) hown (hw _ (List.mem_of_getElem? (i := 22) rfl)) (hw _ (List.mem_of_getElem? (i := 23) rfl)) (notFace_of_selects (args := #[]) (mvT hZ (hw _ (List.mem_of_getElem? (i := 25) rfl)))) (hw _ (List.mem_of_getElem? (i := 25) rfl)) (hw _ (List.mem_of_getElem? (i := 24) rfl)) (by decide) e28 f25_E_b22 (W := 0) (own_rm_cto l Z a0 hw b22 b24 p1 p2 (own_l2 p1 p3 p5) (own_c2 p2 p4 p5) T25.heap f25_F_b22_line f25_F_b22_column Fl25 Fc25) (hw _ (List.mem_of_getElem? (i := 26) rfl)) (hw _ (List.mem_of_getElem? (i := 2) rfl)) (by decide) (by decide) (g := (mkF m 75 #[.val (.int p1), .val (.int p2), .val (.int p3), .val (.int p4), .val (.int p5), .val (.int (own_l2 p1 p3 p5)), .val (.int (own_c2 p2 p4 p5)), .val (.ref b22), .val (.ref b24), .val (.int (own_cmp p2 (own_c2 p2 p4 p5))), .unset, .unset] [(.ref b24), (.ref b22)])) rfl (by rw [hml]; rfl) (b := b22) (argsL := [(.ref b24)]) (rest := []) (lenOf own_pd3 rfl) rfl (by show 2 * 0 + _ ≤ _; exact Nat.le_of_eq rfl) (hb hby at_75) (by decide) (by decide)
    refine oS (u' := T29.setTop (mkF m 78 #[.val (.int p1), .val (.int p2), .val (.int p3), .val (.int p4), .val (.int p5), .val (.int (own_l2 p1 p3 p5)), .val (.int (own_c2 p2 p4 p5)), .val (.ref b22), .val (.ref b24), .val (.int (own_cmp p2 (own_c2 p2 p4 p5))), .unset, .unset] [(.int (own_cto b22 b24 p1 p2 (own_l2 p1 p3 p5) (own_c2 p2 p4 p5)))])) st29 ?_
    obtain ⟨T30, X30, e30, st30⟩ := own_callSP X29 hx hZ (y := (⟨"com/example/demitasse/demitasse/source/PositionCompareToPinLaw", "sign", "(I)I"⟩ : MethodName)) hown (hw _ (List.mem_of_getElem? (i := 31) rfl)) (hw _ (List.mem_of_getElem? (i := 32) rfl)) (hw _ (List.mem_of_getElem? (i := 33) rfl)) (hw _ (List.mem_of_getElem? (i := 20) rfl)) (by decide) e29 (W := 0) (own_rm_sign l Z a0 hw (own_cto b22 b24 p1 p2 (own_l2 p1 p3 p5) (own_c2 p2 p4 p5)) T25.heap ) (by decide) (by decide) (g := (mkF m 78 #[.val (.int p1), .val (.int p2), .val (.int p3), .val (.int p4), .val (.int p5), .val (.int (own_l2 p1 p3 p5)), .val (.int (own_c2 p2 p4 p5)), .val (.ref b22), .val (.ref b24), .val (.int (own_cmp p2 (own_c2 p2 p4 p5))), .unset, .unset] [(.int (own_cto b22 b24 p1 p2 (own_l2 p1 p3 p5) (own_c2 p2 p4 p5)))])) rfl (by rw [hml]; rfl) (argsL := [(.int (own_cto b22 b24 p1 p2 (own_l2 p1 p3 p5) (own_c2 p2 p4 p5)))]) (rest := []) (lenOf own_pd4 rfl) rfl (by show 2 * 0 + _ ≤ _; exact Nat.le_of_eq rfl) (hb hby at_78) (by decide) (by decide)
    refine oS (u' := T30.setTop (mkF m 81 #[.val (.int p1), .val (.int p2), .val (.int p3), .val (.int p4), .val (.int p5), .val (.int (own_l2 p1 p3 p5)), .val (.int (own_c2 p2 p4 p5)), .val (.ref b22), .val (.ref b24), .val (.int (own_cmp p2 (own_c2 p2 p4 p5))), .unset, .unset] [(.int (own_sign (own_cto b22 b24 p1 p2 (own_l2 p1 p3 p5) (own_c2 p2 p4 p5))))])) st30 ?_
    refine oS (u' := T30.setTop (mkF m 83 #[.val (.int p1), .val (.int p2), .val (.int p3), .val (.int p4), .val (.int p5), .val (.int (own_l2 p1 p3 p5)), .val (.int (own_c2 p2 p4 p5)), .val (.ref b22), .val (.ref b24), .val (.int (own_cmp p2 (own_c2 p2 p4 p5))), .val (.int (own_sign (own_cto b22 b24 p1 p2 (own_l2 p1 p3 p5) (own_c2 p2 p4 p5)))), .unset] [])) (fun _ kst => XS.istore X30.here hx rfl (hb hby at_81) rfl (l' := #[.val (.int p1), .val (.int p2), .val (.int p3), .val (.int p4), .val (.int p5), .val (.int (own_l2 p1 p3 p5)), .val (.int (own_c2 p2 p4 p5)), .val (.ref b22), .val (.ref b24), .val (.int (own_cmp p2 (own_c2 p2 p4 p5))), .val (.int (own_sign (own_cto b22 b24 p1 p2 (own_l2 p1 p3 p5) (own_c2 p2 p4 p5)))), .unset]) rfl kst) ?_
    refine oS (u' := T30.setTop (mkF m 85 #[.val (.int p1), .val (.int p2), .val (.int p3), .val (.int p4), .val (.int p5), .val (.int (own_l2 p1 p3 p5)), .val (.int (own_c2 p2 p4 p5)), .val (.ref b22), .val (.ref b24), .val (.int (own_cmp p2 (own_c2 p2 p4 p5))), .val (.int (own_sign (own_cto b22 b24 p1 p2 (own_l2 p1 p3 p5) (own_c2 p2 p4 p5)))), .unset] [(.ref b24)])) (fun _ kst => XS.aload X30.here hx rfl (hb hby at_83) rfl rfl kst) ?_
    refine oS (u' := T30.setTop (mkF m 87 #[.val (.int p1), .val (.int p2), .val (.int p3), .val (.int p4), .val (.int p5), .val (.int (own_l2 p1 p3 p5)), .val (.int (own_c2 p2 p4 p5)), .val (.ref b22), .val (.ref b24), .val (.int (own_cmp p2 (own_c2 p2 p4 p5))), .val (.int (own_sign (own_cto b22 b24 p1 p2 (own_l2 p1 p3 p5) (own_c2 p2 p4 p5)))), .unset] [(.ref b22), (.ref b24)])) (fun _ kst => XS.aload X30.here hx rfl (hb hby at_85) rfl rfl kst) ?_
    obtain ⟨T31, X31, e31, st31⟩ := own_callVP X30 hx hZ (y := (⟨"com/example/demitasse/demitasse/source/Position", "compareTo", "(Lcom/example/demitasse/demitasse/source/Position;)I"⟩ : MethodName)) (z := (⟨"com/example/demitasse/demitasse/source/Position", "compareTo", "(Lcom/example/demitasse/demitasse/source/Position;)I"⟩ : MethodName)) hown (hw _ (List.mem_of_getElem? (i := 22) rfl)) (hw _ (List.mem_of_getElem? (i := 23) rfl)) (notFace_of_selects (args := #[]) (mvT hZ (hw _ (List.mem_of_getElem? (i := 25) rfl)))) (hw _ (List.mem_of_getElem? (i := 25) rfl)) (hw _ (List.mem_of_getElem? (i := 24) rfl)) (by decide) e30 f25_E_b24 (W := 0) (own_rm_cto l Z a0 hw b24 b22 (own_l2 p1 p3 p5) (own_c2 p2 p4 p5) p1 p2 T25.heap Fl25 Fc25 f25_F_b22_line f25_F_b22_column) (hw _ (List.mem_of_getElem? (i := 26) rfl)) (hw _ (List.mem_of_getElem? (i := 2) rfl)) (by decide) (by decide) (g := (mkF m 87 #[.val (.int p1), .val (.int p2), .val (.int p3), .val (.int p4), .val (.int p5), .val (.int (own_l2 p1 p3 p5)), .val (.int (own_c2 p2 p4 p5)), .val (.ref b22), .val (.ref b24), .val (.int (own_cmp p2 (own_c2 p2 p4 p5))), .val (.int (own_sign (own_cto b22 b24 p1 p2 (own_l2 p1 p3 p5) (own_c2 p2 p4 p5)))), .unset] [(.ref b22), (.ref b24)])) rfl (by rw [hml]; rfl) (b := b24) (argsL := [(.ref b22)]) (rest := []) (lenOf own_pd3 rfl) rfl (by show 2 * 0 + _ ≤ _; exact Nat.le_of_eq rfl) (hb hby at_87) (by decide) (by decide)
    refine oS (u' := T31.setTop (mkF m 90 #[.val (.int p1), .val (.int p2), .val (.int p3), .val (.int p4), .val (.int p5), .val (.int (own_l2 p1 p3 p5)), .val (.int (own_c2 p2 p4 p5)), .val (.ref b22), .val (.ref b24), .val (.int (own_cmp p2 (own_c2 p2 p4 p5))), .val (.int (own_sign (own_cto b22 b24 p1 p2 (own_l2 p1 p3 p5) (own_c2 p2 p4 p5)))), .unset] [(.int (own_cto b24 b22 (own_l2 p1 p3 p5) (own_c2 p2 p4 p5) p1 p2))])) st31 ?_
    obtain ⟨T32, X32, e32, st32⟩ := own_callSP X31 hx hZ (y := (⟨"com/example/demitasse/demitasse/source/PositionCompareToPinLaw", "sign", "(I)I"⟩ : MethodName)) hown (hw _ (List.mem_of_getElem? (i := 31) rfl)) (hw _ (List.mem_of_getElem? (i := 32) rfl)) (hw _ (List.mem_of_getElem? (i := 33) rfl)) (hw _ (List.mem_of_getElem? (i := 20) rfl)) (by decide) e31 (W := 0) (own_rm_sign l Z a0 hw (own_cto b24 b22 (own_l2 p1 p3 p5) (own_c2 p2 p4 p5) p1 p2) T25.heap ) (by decide) (by decide) (g := (mkF m 90 #[.val (.int p1), .val (.int p2), .val (.int p3), .val (.int p4), .val (.int p5), .val (.int (own_l2 p1 p3 p5)), .val (.int (own_c2 p2 p4 p5)), .val (.ref b22), .val (.ref b24), .val (.int (own_cmp p2 (own_c2 p2 p4 p5))), .val (.int (own_sign (own_cto b22 b24 p1 p2 (own_l2 p1 p3 p5) (own_c2 p2 p4 p5)))), .unset] [(.int (own_cto b24 b22 (own_l2 p1 p3 p5) (own_c2 p2 p4 p5) p1 p2))])) rfl (by rw [hml]; rfl) (argsL := [(.int (own_cto b24 b22 (own_l2 p1 p3 p5) (own_c2 p2 p4 p5) p1 p2))]) (rest := []) (lenOf own_pd4 rfl) rfl (by show 2 * 0 + _ ≤ _; exact Nat.le_of_eq rfl) (hb hby at_90) (by decide) (by decide)
    refine oS (u' := T32.setTop (mkF m 93 #[.val (.int p1), .val (.int p2), .val (.int p3), .val (.int p4), .val (.int p5), .val (.int (own_l2 p1 p3 p5)), .val (.int (own_c2 p2 p4 p5)), .val (.ref b22), .val (.ref b24), .val (.int (own_cmp p2 (own_c2 p2 p4 p5))), .val (.int (own_sign (own_cto b22 b24 p1 p2 (own_l2 p1 p3 p5) (own_c2 p2 p4 p5)))), .unset] [(.int (own_sign (own_cto b24 b22 (own_l2 p1 p3 p5) (own_c2 p2 p4 p5) p1 p2)))])) st32 ?_
    refine oS (u' := T32.setTop (mkF m 95 #[.val (.int p1), .val (.int p2), .val (.int p3), .val (.int p4), .val (.int p5), .val (.int (own_l2 p1 p3 p5)), .val (.int (own_c2 p2 p4 p5)), .val (.ref b22), .val (.ref b24), .val (.int (own_cmp p2 (own_c2 p2 p4 p5))), .val (.int (own_sign (own_cto b22 b24 p1 p2 (own_l2 p1 p3 p5) (own_c2 p2 p4 p5)))), .val (.int (own_sign (own_cto b24 b22 (own_l2 p1 p3 p5) (own_c2 p2 p4 p5) p1 p2)))] [])) (fun _ kst => XS.istore X32.here hx rfl (hb hby at_93) rfl (l' := #[.val (.int p1), .val (.int p2), .val (.int p3), .val (.int p4), .val (.int p5), .val (.int (own_l2 p1 p3 p5)), .val (.int (own_c2 p2 p4 p5)), .val (.ref b22), .val (.ref b24), .val (.int (own_cmp p2 (own_c2 p2 p4 p5))), .val (.int (own_sign (own_cto b22 b24 p1 p2 (own_l2 p1 p3 p5) (own_c2 p2 p4 p5)))), .val (.int (own_sign (own_cto b24 b22 (own_l2 p1 p3 p5) (own_c2 p2 p4 p5) p1 p2)))]) rfl kst) ?_
    refine oS (u' := T32.setTop (mkF m 97 #[.val (.int p1), .val (.int p2), .val (.int p3), .val (.int p4), .val (.int p5), .val (.int (own_l2 p1 p3 p5)), .val (.int (own_c2 p2 p4 p5)), .val (.ref b22), .val (.ref b24), .val (.int (own_cmp p2 (own_c2 p2 p4 p5))), .val (.int (own_sign (own_cto b22 b24 p1 p2 (own_l2 p1 p3 p5) (own_c2 p2 p4 p5)))), .val (.int (own_sign (own_cto b24 b22 (own_l2 p1 p3 p5) (own_c2 p2 p4 p5) p1 p2)))] [(.int (own_sign (own_cto b22 b24 p1 p2 (own_l2 p1 p3 p5) (own_c2 p2 p4 p5))))])) (fun _ kst => XS.iload X32.here hx rfl (hb hby at_95) rfl kst) ?_
    refine oS (u' := T32.setTop (mkF m 99 #[.val (.int p1), .val (.int p2), .val (.int p3), .val (.int p4), .val (.int p5), .val (.int (own_l2 p1 p3 p5)), .val (.int (own_c2 p2 p4 p5)), .val (.ref b22), .val (.ref b24), .val (.int (own_cmp p2 (own_c2 p2 p4 p5))), .val (.int (own_sign (own_cto b22 b24 p1 p2 (own_l2 p1 p3 p5) (own_c2 p2 p4 p5)))), .val (.int (own_sign (own_cto b24 b22 (own_l2 p1 p3 p5) (own_c2 p2 p4 p5) p1 p2)))] [(.int (own_cmp p2 (own_c2 p2 p4 p5))), (.int (own_sign (own_cto b22 b24 p1 p2 (own_l2 p1 p3 p5) (own_c2 p2 p4 p5))))])) (fun _ kst => XS.iload X32.here hx rfl (hb hby at_97) rfl kst) ?_
    refine oS (u' := T32.setTop (mkF m 102 #[.val (.int p1), .val (.int p2), .val (.int p3), .val (.int p4), .val (.int p5), .val (.int (own_l2 p1 p3 p5)), .val (.int (own_c2 p2 p4 p5)), .val (.ref b22), .val (.ref b24), .val (.int (own_cmp p2 (own_c2 p2 p4 p5))), .val (.int (own_sign (own_cto b22 b24 p1 p2 (own_l2 p1 p3 p5) (own_c2 p2 p4 p5)))), .val (.int (own_sign (own_cto b24 b22 (own_l2 p1 p3 p5) (own_c2 p2 p4 p5) p1 p2)))] [])) (fun _ kst => XS.icmpNo X32.here hx rfl (hb hby at_99) rfl (teq (own_t1 _ _ hc27)).2 kst) ?_
    refine oS (u' := T32.setTop (mkF m 104 #[.val (.int p1), .val (.int p2), .val (.int p3), .val (.int p4), .val (.int p5), .val (.int (own_l2 p1 p3 p5)), .val (.int (own_c2 p2 p4 p5)), .val (.ref b22), .val (.ref b24), .val (.int (own_cmp p2 (own_c2 p2 p4 p5))), .val (.int (own_sign (own_cto b22 b24 p1 p2 (own_l2 p1 p3 p5) (own_c2 p2 p4 p5)))), .val (.int (own_sign (own_cto b24 b22 (own_l2 p1 p3 p5) (own_c2 p2 p4 p5) p1 p2)))] [(.int (own_sign (own_cto b24 b22 (own_l2 p1 p3 p5) (own_c2 p2 p4 p5) p1 p2)))])) (fun _ kst => XS.iload X32.here hx rfl (hb hby at_102) rfl kst) ?_
    refine oS (u' := T32.setTop (mkF m 106 #[.val (.int p1), .val (.int p2), .val (.int p3), .val (.int p4), .val (.int p5), .val (.int (own_l2 p1 p3 p5)), .val (.int (own_c2 p2 p4 p5)), .val (.ref b22), .val (.ref b24), .val (.int (own_cmp p2 (own_c2 p2 p4 p5))), .val (.int (own_sign (own_cto b22 b24 p1 p2 (own_l2 p1 p3 p5) (own_c2 p2 p4 p5)))), .val (.int (own_sign (own_cto b24 b22 (own_l2 p1 p3 p5) (own_c2 p2 p4 p5) p1 p2)))] [(.int (own_cmp p2 (own_c2 p2 p4 p5))), (.int (own_sign (own_cto b24 b22 (own_l2 p1 p3 p5) (own_c2 p2 p4 p5) p1 p2)))])) (fun _ kst => XS.iload X32.here hx rfl (hb hby at_104) rfl kst) ?_
    refine oS (u' := T32.setTop (mkF m 107 #[.val (.int p1), .val (.int p2), .val (.int p3), .val (.int p4), .val (.int p5), .val (.int (own_l2 p1 p3 p5)), .val (.int (own_c2 p2 p4 p5)), .val (.ref b22), .val (.ref b24), .val (.int (own_cmp p2 (own_c2 p2 p4 p5))), .val (.int (own_sign (own_cto b22 b24 p1 p2 (own_l2 p1 p3 p5) (own_c2 p2 p4 p5)))), .val (.int (own_sign (own_cto b24 b22 (own_l2 p1 p3 p5) (own_c2 p2 p4 p5) p1 p2)))] [(.int (-(own_cmp p2 (own_c2 p2 p4 p5)))), (.int (own_sign (own_cto b24 b22 (own_l2 p1 p3 p5) (own_c2 p2 p4 p5) p1 p2)))])) (fun _ kst => XS.ineg X32.here hx rfl (hb hby at_106) rfl kst) ?_
    refine oS (u' := T32.setTop (mkF m 110 #[.val (.int p1), .val (.int p2), .val (.int p3), .val (.int p4), .val (.int p5), .val (.int (own_l2 p1 p3 p5)), .val (.int (own_c2 p2 p4 p5)), .val (.ref b22), .val (.ref b24), .val (.int (own_cmp p2 (own_c2 p2 p4 p5))), .val (.int (own_sign (own_cto b22 b24 p1 p2 (own_l2 p1 p3 p5) (own_c2 p2 p4 p5)))), .val (.int (own_sign (own_cto b24 b22 (own_l2 p1 p3 p5) (own_c2 p2 p4 p5) p1 p2)))] [])) (fun _ kst => XS.icmpNo X32.here hx rfl (hb hby at_107) rfl (teq ((own_t1 _ _ (own_sym hc27)).trans (own_anti _ _))).2 kst) ?_
    refine oS (u' := T32.setTop (mkF m 111 #[.val (.int p1), .val (.int p2), .val (.int p3), .val (.int p4), .val (.int p5), .val (.int (own_l2 p1 p3 p5)), .val (.int (own_c2 p2 p4 p5)), .val (.ref b22), .val (.ref b24), .val (.int (own_cmp p2 (own_c2 p2 p4 p5))), .val (.int (own_sign (own_cto b22 b24 p1 p2 (own_l2 p1 p3 p5) (own_c2 p2 p4 p5)))), .val (.int (own_sign (own_cto b24 b22 (own_l2 p1 p3 p5) (own_c2 p2 p4 p5) p1 p2)))] [(.int (1 : Int32))])) (fun _ kst => XS.iconst X32.here hx rfl (hb hby at_110) kst) ?_
    refine oS (u' := T32.setTop (mkF m 115 #[.val (.int p1), .val (.int p2), .val (.int p3), .val (.int p4), .val (.int p5), .val (.int (own_l2 p1 p3 p5)), .val (.int (own_c2 p2 p4 p5)), .val (.ref b22), .val (.ref b24), .val (.int (own_cmp p2 (own_c2 p2 p4 p5))), .val (.int (own_sign (own_cto b22 b24 p1 p2 (own_l2 p1 p3 p5) (own_c2 p2 p4 p5)))), .val (.int (own_sign (own_cto b24 b22 (own_l2 p1 p3 p5) (own_c2 p2 p4 p5) p1 p2)))] [(.int (1 : Int32))])) (fun _ kst => XS.goto X32.here hx rfl (pc0 := 111) (pc' := 115) rfl (hb hby at_111) (by decide) (by decide) kst) ?_
    refine own_retN X32 hx hlk (t := .boolean) hret (by simp) (hb hby at_115) ?_ (by decide) (by decide)
    exact ⟨rfl, N25⟩
  · refine oS (u' := T26.setTop (mkF m 71 #[.val (.int p1), .val (.int p2), .val (.int p3), .val (.int p4), .val (.int p5), .val (.int (own_l2 p1 p3 p5)), .val (.int (own_c2 p2 p4 p5)), .val (.ref b22), .val (.ref b24), .val (.int (own_cmp p1 (own_l2 p1 p3 p5))), .unset, .unset] [])) (fun _ kst => XS.ifYes X26.here hx rfl (pc0 := 60) (pc' := 71) rfl (hb hby at_60) rfl ((if0 _ _).trans (feq hc27).2) (by decide) (by decide) kst) ?_
    refine oS (u' := T26.setTop (mkF m 73 #[.val (.int p1), .val (.int p2), .val (.int p3), .val (.int p4), .val (.int p5), .val (.int (own_l2 p1 p3 p5)), .val (.int (own_c2 p2 p4 p5)), .val (.ref b22), .val (.ref b24), .val (.int (own_cmp p1 (own_l2 p1 p3 p5))), .unset, .unset] [(.ref b22)])) (fun _ kst => XS.aload X26.here hx rfl (hb hby at_71) rfl rfl kst) ?_
    refine oS (u' := T26.setTop (mkF m 75 #[.val (.int p1), .val (.int p2), .val (.int p3), .val (.int p4), .val (.int p5), .val (.int (own_l2 p1 p3 p5)), .val (.int (own_c2 p2 p4 p5)), .val (.ref b22), .val (.ref b24), .val (.int (own_cmp p1 (own_l2 p1 p3 p5))), .unset, .unset] [(.ref b24), (.ref b22)])) (fun _ kst => XS.aload X26.here hx rfl (hb hby at_73) rfl rfl kst) ?_
    obtain ⟨T33, X33, e33, st33⟩ := own_callVP X26 hx hZ (y := (⟨"com/example/demitasse/demitasse/source/Position", "compareTo", "(Lcom/example/demitasse/demitasse/source/Position;)I"⟩ : MethodName)) (z := (⟨"com/example/demitasse/demitasse/source/Position", "compareTo", "(Lcom/example/demitasse/demitasse/source/Position;)I"⟩ : MethodName)) hown (hw _ (List.mem_of_getElem? (i := 22) rfl)) (hw _ (List.mem_of_getElem? (i := 23) rfl)) (notFace_of_selects (args := #[]) (mvT hZ (hw _ (List.mem_of_getElem? (i := 25) rfl)))) (hw _ (List.mem_of_getElem? (i := 25) rfl)) (hw _ (List.mem_of_getElem? (i := 24) rfl)) (by decide) e26 f25_E_b22 (W := 0) (own_rm_cto l Z a0 hw b22 b24 p1 p2 (own_l2 p1 p3 p5) (own_c2 p2 p4 p5) T25.heap f25_F_b22_line f25_F_b22_column Fl25 Fc25) (hw _ (List.mem_of_getElem? (i := 26) rfl)) (hw _ (List.mem_of_getElem? (i := 2) rfl)) (by decide) (by decide) (g := (mkF m 75 #[.val (.int p1), .val (.int p2), .val (.int p3), .val (.int p4), .val (.int p5), .val (.int (own_l2 p1 p3 p5)), .val (.int (own_c2 p2 p4 p5)), .val (.ref b22), .val (.ref b24), .val (.int (own_cmp p1 (own_l2 p1 p3 p5))), .unset, .unset] [(.ref b24), (.ref b22)])) rfl (by rw [hml]; rfl) (b := b22) (argsL := [(.ref b24)]) (rest := []) (lenOf own_pd3 rfl) rfl (by show 2 * 0 + _ ≤ _; exact Nat.le_of_eq rfl) (hb hby at_75) (by decide) (by decide)
    refine oS (u' := T33.setTop (mkF m 78 #[.val (.int p1), .val (.int p2), .val (.int p3), .val (.int p4), .val (.int p5), .val (.int (own_l2 p1 p3 p5)), .val (.int (own_c2 p2 p4 p5)), .val (.ref b22), .val (.ref b24), .val (.int (own_cmp p1 (own_l2 p1 p3 p5))), .unset, .unset] [(.int (own_cto b22 b24 p1 p2 (own_l2 p1 p3 p5) (own_c2 p2 p4 p5)))])) st33 ?_
    obtain ⟨T34, X34, e34, st34⟩ := own_callSP X33 hx hZ (y := (⟨"com/example/demitasse/demitasse/source/PositionCompareToPinLaw", "sign", "(I)I"⟩ : MethodName)) hown (hw _ (List.mem_of_getElem? (i := 31) rfl)) (hw _ (List.mem_of_getElem? (i := 32) rfl)) (hw _ (List.mem_of_getElem? (i := 33) rfl)) (hw _ (List.mem_of_getElem? (i := 20) rfl)) (by decide) e33 (W := 0) (own_rm_sign l Z a0 hw (own_cto b22 b24 p1 p2 (own_l2 p1 p3 p5) (own_c2 p2 p4 p5)) T25.heap ) (by decide) (by decide) (g := (mkF m 78 #[.val (.int p1), .val (.int p2), .val (.int p3), .val (.int p4), .val (.int p5), .val (.int (own_l2 p1 p3 p5)), .val (.int (own_c2 p2 p4 p5)), .val (.ref b22), .val (.ref b24), .val (.int (own_cmp p1 (own_l2 p1 p3 p5))), .unset, .unset] [(.int (own_cto b22 b24 p1 p2 (own_l2 p1 p3 p5) (own_c2 p2 p4 p5)))])) rfl (by rw [hml]; rfl) (argsL := [(.int (own_cto b22 b24 p1 p2 (own_l2 p1 p3 p5) (own_c2 p2 p4 p5)))]) (rest := []) (lenOf own_pd4 rfl) rfl (by show 2 * 0 + _ ≤ _; exact Nat.le_of_eq rfl) (hb hby at_78) (by decide) (by decide)
    refine oS (u' := T34.setTop (mkF m 81 #[.val (.int p1), .val (.int p2), .val (.int p3), .val (.int p4), .val (.int p5), .val (.int (own_l2 p1 p3 p5)), .val (.int (own_c2 p2 p4 p5)), .val (.ref b22), .val (.ref b24), .val (.int (own_cmp p1 (own_l2 p1 p3 p5))), .unset, .unset] [(.int (own_sign (own_cto b22 b24 p1 p2 (own_l2 p1 p3 p5) (own_c2 p2 p4 p5))))])) st34 ?_
    refine oS (u' := T34.setTop (mkF m 83 #[.val (.int p1), .val (.int p2), .val (.int p3), .val (.int p4), .val (.int p5), .val (.int (own_l2 p1 p3 p5)), .val (.int (own_c2 p2 p4 p5)), .val (.ref b22), .val (.ref b24), .val (.int (own_cmp p1 (own_l2 p1 p3 p5))), .val (.int (own_sign (own_cto b22 b24 p1 p2 (own_l2 p1 p3 p5) (own_c2 p2 p4 p5)))), .unset] [])) (fun _ kst => XS.istore X34.here hx rfl (hb hby at_81) rfl (l' := #[.val (.int p1), .val (.int p2), .val (.int p3), .val (.int p4), .val (.int p5), .val (.int (own_l2 p1 p3 p5)), .val (.int (own_c2 p2 p4 p5)), .val (.ref b22), .val (.ref b24), .val (.int (own_cmp p1 (own_l2 p1 p3 p5))), .val (.int (own_sign (own_cto b22 b24 p1 p2 (own_l2 p1 p3 p5) (own_c2 p2 p4 p5)))), .unset]) rfl kst) ?_
    refine oS (u' := T34.setTop (mkF m 85 #[.val (.int p1), .val (.int p2), .val (.int p3), .val (.int p4), .val (.int p5), .val (.int (own_l2 p1 p3 p5)), .val (.int (own_c2 p2 p4 p5)), .val (.ref b22), .val (.ref b24), .val (.int (own_cmp p1 (own_l2 p1 p3 p5))), .val (.int (own_sign (own_cto b22 b24 p1 p2 (own_l2 p1 p3 p5) (own_c2 p2 p4 p5)))), .unset] [(.ref b24)])) (fun _ kst => XS.aload X34.here hx rfl (hb hby at_83) rfl rfl kst) ?_
    refine oS (u' := T34.setTop (mkF m 87 #[.val (.int p1), .val (.int p2), .val (.int p3), .val (.int p4), .val (.int p5), .val (.int (own_l2 p1 p3 p5)), .val (.int (own_c2 p2 p4 p5)), .val (.ref b22), .val (.ref b24), .val (.int (own_cmp p1 (own_l2 p1 p3 p5))), .val (.int (own_sign (own_cto b22 b24 p1 p2 (own_l2 p1 p3 p5) (own_c2 p2 p4 p5)))), .unset] [(.ref b22), (.ref b24)])) (fun _ kst => XS.aload X34.here hx rfl (hb hby at_85) rfl rfl kst) ?_
    obtain ⟨T35, X35, e35, st35⟩ := own_callVP X34 hx hZ (y := (⟨"com/example/demitasse/demitasse/source/Position", "compareTo", "(Lcom/example/demitasse/demitasse/source/Position;)I"⟩ : MethodName)) (z := (⟨"com/example/demitasse/demitasse/source/Position", "compareTo", "(Lcom/example/demitasse/demitasse/source/Position;)I"⟩ : MethodName)) hown (hw _ (List.mem_of_getElem? (i := 22) rfl)) (hw _ (List.mem_of_getElem? (i := 23) rfl)) (notFace_of_selects (args := #[]) (mvT hZ (hw _ (List.mem_of_getElem? (i := 25) rfl)))) (hw _ (List.mem_of_getElem? (i := 25) rfl)) (hw _ (List.mem_of_getElem? (i := 24) rfl)) (by decide) e34 f25_E_b24 (W := 0) (own_rm_cto l Z a0 hw b24 b22 (own_l2 p1 p3 p5) (own_c2 p2 p4 p5) p1 p2 T25.heap Fl25 Fc25 f25_F_b22_line f25_F_b22_column) (hw _ (List.mem_of_getElem? (i := 26) rfl)) (hw _ (List.mem_of_getElem? (i := 2) rfl)) (by decide) (by decide) (g := (mkF m 87 #[.val (.int p1), .val (.int p2), .val (.int p3), .val (.int p4), .val (.int p5), .val (.int (own_l2 p1 p3 p5)), .val (.int (own_c2 p2 p4 p5)), .val (.ref b22), .val (.ref b24), .val (.int (own_cmp p1 (own_l2 p1 p3 p5))), .val (.int (own_sign (own_cto b22 b24 p1 p2 (own_l2 p1 p3 p5) (own_c2 p2 p4 p5)))), .unset] [(.ref b22), (.ref b24)])) rfl (by rw [hml]; rfl) (b := b24) (argsL := [(.ref b22)]) (rest := []) (lenOf own_pd3 rfl) rfl (by show 2 * 0 + _ ≤ _; exact Nat.le_of_eq rfl) (hb hby at_87) (by decide) (by decide)
    refine oS (u' := T35.setTop (mkF m 90 #[.val (.int p1), .val (.int p2), .val (.int p3), .val (.int p4), .val (.int p5), .val (.int (own_l2 p1 p3 p5)), .val (.int (own_c2 p2 p4 p5)), .val (.ref b22), .val (.ref b24), .val (.int (own_cmp p1 (own_l2 p1 p3 p5))), .val (.int (own_sign (own_cto b22 b24 p1 p2 (own_l2 p1 p3 p5) (own_c2 p2 p4 p5)))), .unset] [(.int (own_cto b24 b22 (own_l2 p1 p3 p5) (own_c2 p2 p4 p5) p1 p2))])) st35 ?_
    obtain ⟨T36, X36, e36, st36⟩ := own_callSP X35 hx hZ (y := (⟨"com/example/demitasse/demitasse/source/PositionCompareToPinLaw", "sign", "(I)I"⟩ : MethodName)) hown (hw _ (List.mem_of_getElem? (i := 31) rfl)) (hw _ (List.mem_of_getElem? (i := 32) rfl)) (hw _ (List.mem_of_getElem? (i := 33) rfl)) (hw _ (List.mem_of_getElem? (i := 20) rfl)) (by decide) e35 (W := 0) (own_rm_sign l Z a0 hw (own_cto b24 b22 (own_l2 p1 p3 p5) (own_c2 p2 p4 p5) p1 p2) T25.heap ) (by decide) (by decide) (g := (mkF m 90 #[.val (.int p1), .val (.int p2), .val (.int p3), .val (.int p4), .val (.int p5), .val (.int (own_l2 p1 p3 p5)), .val (.int (own_c2 p2 p4 p5)), .val (.ref b22), .val (.ref b24), .val (.int (own_cmp p1 (own_l2 p1 p3 p5))), .val (.int (own_sign (own_cto b22 b24 p1 p2 (own_l2 p1 p3 p5) (own_c2 p2 p4 p5)))), .unset] [(.int (own_cto b24 b22 (own_l2 p1 p3 p5) (own_c2 p2 p4 p5) p1 p2))])) rfl (by rw [hml]; rfl) (argsL := [(.int (own_cto b24 b22 (own_l2 p1 p3 p5) (own_c2 p2 p4 p5) p1 p2))]) (rest := []) (lenOf own_pd4 rfl) rfl (by show 2 * 0 + _ ≤ _; exact Nat.le_of_eq rfl) (hb hby at_90) (by decide) (by decide)
    refine oS (u' := T36.setTop (mkF m 93 #[.val (.int p1), .val (.int p2), .val (.int p3), .val (.int p4), .val (.int p5), .val (.int (own_l2 p1 p3 p5)), .val (.int (own_c2 p2 p4 p5)), .val (.ref b22), .val (.ref b24), .val (.int (own_cmp p1 (own_l2 p1 p3 p5))), .val (.int (own_sign (own_cto b22 b24 p1 p2 (own_l2 p1 p3 p5) (own_c2 p2 p4 p5)))), .unset] [(.int (own_sign (own_cto b24 b22 (own_l2 p1 p3 p5) (own_c2 p2 p4 p5) p1 p2)))])) st36 ?_
    refine oS (u' := T36.setTop (mkF m 95 #[.val (.int p1), .val (.int p2), .val (.int p3), .val (.int p4), .val (.int p5), .val (.int (own_l2 p1 p3 p5)), .val (.int (own_c2 p2 p4 p5)), .val (.ref b22), .val (.ref b24), .val (.int (own_cmp p1 (own_l2 p1 p3 p5))), .val (.int (own_sign (own_cto b22 b24 p1 p2 (own_l2 p1 p3 p5) (own_c2 p2 p4 p5)))), .val (.int (own_sign (own_cto b24 b22 (own_l2 p1 p3 p5) (own_c2 p2 p4 p5) p1 p2)))] [])) (fun _ kst => XS.istore X36.here hx rfl (hb hby at_93) rfl (l' := #[.val (.int p1), .val (.int p2), .val (.int p3), .val (.int p4), .val (.int p5), .val (.int (own_l2 p1 p3 p5)), .val (.int (own_c2 p2 p4 p5)), .val (.ref b22), .val (.ref b24), .val (.int (own_cmp p1 (own_l2 p1 p3 p5))), .val (.int (own_sign (own_cto b22 b24 p1 p2 (own_l2 p1 p3 p5) (own_c2 p2 p4 p5)))), .val (.int (own_sign (own_cto b24 b22 (own_l2 p1 p3 p5) (own_c2 p2 p4 p5) p1 p2)))]) rfl kst) ?_
    refine oS (u' := T36.setTop (mkF m 97 #[.val (.int p1), .val (.int p2), .val (.int p3), .val (.int p4), .val (.int p5), .val (.int (own_l2 p1 p3 p5)), .val (.int (own_c2 p2 p4 p5)), .val (.ref b22), .val (.ref b24), .val (.int (own_cmp p1 (own_l2 p1 p3 p5))), .val (.int (own_sign (own_cto b22 b24 p1 p2 (own_l2 p1 p3 p5) (own_c2 p2 p4 p5)))), .val (.int (own_sign (own_cto b24 b22 (own_l2 p1 p3 p5) (own_c2 p2 p4 p5) p1 p2)))] [(.int (own_sign (own_cto b22 b24 p1 p2 (own_l2 p1 p3 p5) (own_c2 p2 p4 p5))))])) (fun _ kst => XS.iload X36.here hx rfl (hb hby at_95) rfl kst) ?_
    refine oS (u' := T36.setTop (mkF m 99 #[.val (.int p1), .val (.int p2), .val (.int p3), .val (.int p4), .val (.int p5), .val (.int (own_l2 p1 p3 p5)), .val (.int (own_c2 p2 p4 p5)), .val (.ref b22), .val (.ref b24), .val (.int (own_cmp p1 (own_l2 p1 p3 p5))), .val (.int (own_sign (own_cto b22 b24 p1 p2 (own_l2 p1 p3 p5) (own_c2 p2 p4 p5)))), .val (.int (own_sign (own_cto b24 b22 (own_l2 p1 p3 p5) (own_c2 p2 p4 p5) p1 p2)))] [(.int (own_cmp p1 (own_l2 p1 p3 p5))), (.int (own_sign (own_cto b22 b24 p1 p2 (own_l2 p1 p3 p5) (own_c2 p2 p4 p5))))])) (fun _ kst => XS.iload X36.here hx rfl (hb hby at_97) rfl kst) ?_
    refine oS (u' := T36.setTop (mkF m 102 #[.val (.int p1), .val (.int p2), .val (.int p3), .val (.int p4), .val (.int p5), .val (.int (own_l2 p1 p3 p5)), .val (.int (own_c2 p2 p4 p5)), .val (.ref b22), .val (.ref b24), .val (.int (own_cmp p1 (own_l2 p1 p3 p5))), .val (.int (own_sign (own_cto b22 b24 p1 p2 (own_l2 p1 p3 p5) (own_c2 p2 p4 p5)))), .val (.int (own_sign (own_cto b24 b22 (own_l2 p1 p3 p5) (own_c2 p2 p4 p5) p1 p2)))] [])) (fun _ kst => XS.icmpNo X36.here hx rfl (hb hby at_99) rfl (teq (own_t2 _ _ hc27)).2 kst) ?_
    refine oS (u' := T36.setTop (mkF m 104 #[.val (.int p1), .val (.int p2), .val (.int p3), .val (.int p4), .val (.int p5), .val (.int (own_l2 p1 p3 p5)), .val (.int (own_c2 p2 p4 p5)), .val (.ref b22), .val (.ref b24), .val (.int (own_cmp p1 (own_l2 p1 p3 p5))), .val (.int (own_sign (own_cto b22 b24 p1 p2 (own_l2 p1 p3 p5) (own_c2 p2 p4 p5)))), .val (.int (own_sign (own_cto b24 b22 (own_l2 p1 p3 p5) (own_c2 p2 p4 p5) p1 p2)))] [(.int (own_sign (own_cto b24 b22 (own_l2 p1 p3 p5) (own_c2 p2 p4 p5) p1 p2)))])) (fun _ kst => XS.iload X36.here hx rfl (hb hby at_102) rfl kst) ?_
    refine oS (u' := T36.setTop (mkF m 106 #[.val (.int p1), .val (.int p2), .val (.int p3), .val (.int p4), .val (.int p5), .val (.int (own_l2 p1 p3 p5)), .val (.int (own_c2 p2 p4 p5)), .val (.ref b22), .val (.ref b24), .val (.int (own_cmp p1 (own_l2 p1 p3 p5))), .val (.int (own_sign (own_cto b22 b24 p1 p2 (own_l2 p1 p3 p5) (own_c2 p2 p4 p5)))), .val (.int (own_sign (own_cto b24 b22 (own_l2 p1 p3 p5) (own_c2 p2 p4 p5) p1 p2)))] [(.int (own_cmp p1 (own_l2 p1 p3 p5))), (.int (own_sign (own_cto b24 b22 (own_l2 p1 p3 p5) (own_c2 p2 p4 p5) p1 p2)))])) (fun _ kst => XS.iload X36.here hx rfl (hb hby at_104) rfl kst) ?_
    refine oS (u' := T36.setTop (mkF m 107 #[.val (.int p1), .val (.int p2), .val (.int p3), .val (.int p4), .val (.int p5), .val (.int (own_l2 p1 p3 p5)), .val (.int (own_c2 p2 p4 p5)), .val (.ref b22), .val (.ref b24), .val (.int (own_cmp p1 (own_l2 p1 p3 p5))), .val (.int (own_sign (own_cto b22 b24 p1 p2 (own_l2 p1 p3 p5) (own_c2 p2 p4 p5)))), .val (.int (own_sign (own_cto b24 b22 (own_l2 p1 p3 p5) (own_c2 p2 p4 p5) p1 p2)))] [(.int (-(own_cmp p1 (own_l2 p1 p3 p5)))), (.int (own_sign (own_cto b24 b22 (own_l2 p1 p3 p5) (own_c2 p2 p4 p5) p1 p2)))])) (fun _ kst => XS.ineg X36.here hx rfl (hb hby at_106) rfl kst) ?_
    refine oS (u' := T36.setTop (mkF m 110 #[.val (.int p1), .val (.int p2), .val (.int p3), .val (.int p4), .val (.int p5), .val (.int (own_l2 p1 p3 p5)), .val (.int (own_c2 p2 p4 p5)), .val (.ref b22), .val (.ref b24), .val (.int (own_cmp p1 (own_l2 p1 p3 p5))), .val (.int (own_sign (own_cto b22 b24 p1 p2 (own_l2 p1 p3 p5) (own_c2 p2 p4 p5)))), .val (.int (own_sign (own_cto b24 b22 (own_l2 p1 p3 p5) (own_c2 p2 p4 p5) p1 p2)))] [])) (fun _ kst => XS.icmpNo X36.here hx rfl (hb hby at_107) rfl (teq ((own_t2 _ _ (own_symn hc27)).trans (own_anti _ _))).2 kst) ?_
    refine oS (u' := T36.setTop (mkF m 111 #[.val (.int p1), .val (.int p2), .val (.int p3), .val (.int p4), .val (.int p5), .val (.int (own_l2 p1 p3 p5)), .val (.int (own_c2 p2 p4 p5)), .val (.ref b22), .val (.ref b24), .val (.int (own_cmp p1 (own_l2 p1 p3 p5))), .val (.int (own_sign (own_cto b22 b24 p1 p2 (own_l2 p1 p3 p5) (own_c2 p2 p4 p5)))), .val (.int (own_sign (own_cto b24 b22 (own_l2 p1 p3 p5) (own_c2 p2 p4 p5) p1 p2)))] [(.int (1 : Int32))])) (fun _ kst => XS.iconst X36.here hx rfl (hb hby at_110) kst) ?_
    refine oS (u' := T36.setTop (mkF m 115 #[.val (.int p1), .val (.int p2), .val (.int p3), .val (.int p4), .val (.int p5), .val (.int (own_l2 p1 p3 p5)), .val (.int (own_c2 p2 p4 p5)), .val (.ref b22), .val (.ref b24), .val (.int (own_cmp p1 (own_l2 p1 p3 p5))), .val (.int (own_sign (own_cto b22 b24 p1 p2 (own_l2 p1 p3 p5) (own_c2 p2 p4 p5)))), .val (.int (own_sign (own_cto b24 b22 (own_l2 p1 p3 p5) (own_c2 p2 p4 p5) p1 p2)))] [(.int (1 : Int32))])) (fun _ kst => XS.goto X36.here hx rfl (pc0 := 111) (pc' := 115) rfl (hb hby at_111) (by decide) (by decide) kst) ?_
    refine own_retN X36 hx hlk (t := .boolean) hret (by simp) (hb hby at_115) ?_ (by decide) (by decide)
    exact ⟨rfl, N25⟩
set_option maxRecDepth 65536 in
set_option maxHeartbeats 40000000 in
theorem comes_1 {Post : Tables → Env → Array Value → State → Outcome → State → Prop} (hpost : ∀ tb e args s v u, (limb_1_1.after args s (.returned v) u = true ∧ limb_1_2.after args s (.returned v) u = true ∧ True) → FrameEnd s (.returned v) u (Jvm.fieldLocs frame_1_writes args s ++ Jvm.arrayLocs frame_1_arrays args s ++ Jvm.staticLocs frame_1_statics s) 16 128 → Post tb e args s (.returned v) u) :
    ArmFor flags0 classFile x code maxLocals ret World_1 tables_1 room_1 Calls_1 rest_1 Pre_1 Post := by
  intro l hfl _ _ p e ha hc hk s m args below hf hA hF happ hP
  obtain ⟨hcalls, hrest, hpre⟩ := hP
  obtain ⟨-, -, -, hnamed, -, -, -, hat⟩ := (Spec.applies_iff hf).mp happ
  obtain ⟨hg, hn⟩ := and_e (Cond.before_iff.mp (show (Jvm.Cond.and given_1 narrow_1).before args s = true from hpre))
  obtain ⟨g0, gg0⟩ := and_e hg
  obtain ⟨g1, gg1⟩ := and_e gg0
  obtain ⟨g2, gg2⟩ := and_e gg1
  obtain ⟨g3, gg3⟩ := and_e gg2
  obtain ⟨g4, gg4⟩ := and_e gg3
  obtain ⟨w0, w1, w2, w3, w4, rfl⟩ : ∃ w0 w1 w2 w3 w4 : Value, args = #[w0, w1, w2, w3, w4] := by
    have hs : args.size = 5 := by simpa [Cond.value, given_1] using g0
    obtain ⟨L⟩ := args
    match L, hs with
    | [w0, w1, w2, w3, w4], _ => exact ⟨w0, w1, w2, w3, w4, rfl⟩
  have hw := fun d (hd : d ∈ tables_1) => atoms_spec (ws := Jvm.Cond.code x code maxLocals ret :: tables_1) hat d (List.mem_cons_of_mem _ hd)
  have hfit : Fit s := fun {y c} hc i hi => by
    obtain ⟨ha, rfl⟩ := Array.getElem?_eq_some_iff.mp hc
    have q := List.all_eq_true.mp ((Array.all_eq_true_iff_forall_mem.mp hF) _ (Array.getElem_mem ha)) i (List.mem_range.mpr hi)
    simpa [Array.getElem?_eq_getElem hi] using q
  obtain ⟨i0, ei0⟩ := is_v g1
  obtain rfl : w0 = (.int i0) := Option.some.inj ei0
  obtain ⟨i1, ei1⟩ := is_v g2
  obtain rfl : w1 = (.int i1) := Option.some.inj ei1
  obtain ⟨i2, ei2⟩ := is_v g3
  obtain rfl : w2 = (.int i2) := Option.some.inj ei2
  obtain ⟨i3, ei3⟩ := is_v g4
  obtain rfl : w3 = (.int i3) := Option.some.inj ei3
  obtain ⟨i4, ei4⟩ := is_v gg4
  obtain rfl : w4 = (.int i4) := Option.some.inj ei4
  obtain ⟨n, o, h1, h2, h3, _, L, rfl, ⟨rfl, N⟩, hq⟩ := own_law l s _ hw i0 i1 i2 i3 i4 s.heap s.heap.size (Nat.le_refl _) p e ha hc hk s m _ below hf ((Spec.applies_iff_loose hf).mp happ).1 ⟨rfl, State.Warmed39.refl s, rfl⟩ trivial
  refine ⟨n, _, h1, h2, h3, hpost _ _ _ _ _ _ ⟨Cond.after_iff.mpr rfl, Cond.after_iff.mpr (eq_i res_at (Term.int_eval (1)) rfl), trivial⟩ ⟨hq.1, hq.2.1, (hq.2.2.sift fun y hy => Or.inr (N y hy)).mono (by decide) (by decide)⟩⟩
theorem main_1_1 : Claimed_1_1 := comes_1 fun _ _ _ _ _ _ h hF => ⟨h.1, hF⟩
theorem main_1_2 : Claimed_1_2 := comes_1 fun _ _ _ _ _ _ h hF => ⟨h.2.1, hF⟩
end Jvm.Pilot.@@N@@
namespace Jvm.Pilot.@@N@@
open Jvm Jvm.ClassFile Sem Op Lib Jvm.Free Jvm.Stand Jvm.Pilot.@@N@@.Jvm.D
/-! MADE BY PROGRAM (witnessworld.py) out of the Statement's table words and the real class files: 15 classes; the members and pool entries that the words name. The judged class is class 1, her method 3. -/
namespace start1
open Jvm.ClassFile
def u (s : String) : CpInfo := .utf8 (stringToUtf16 s)
/-- a pool by its gaps: so many unusable entries, then the entry; so many at the end -/
def gap : Nat → List CpInfo → List CpInfo
  | 0, r => r
  | n + 1, r => .unusable :: gap n r
def poolList (es : List (Nat × CpInfo)) (last : Nat) : List CpInfo := es.foldr (fun e r => gap e.1 (e.2 :: r)) (gap last [])
def pool (es : List (Nat × CpInfo)) (last : Nat) : Array CpInfo := ⟨poolList es last⟩
def fileOf (pool : Array CpInfo) (this : Nat) (attrs : Array Attribute := #[]) (ms : Array MethodInfo := #[]) (fl : Nat := 33) (sup : Nat := 0) (ifs : Array Nat := #[]) (fds : Array FieldInfo := #[]) : ClassFile where
  minorVersion := 0
  majorVersion := 65
  constantPool := pool
  accessFlags := fl
  thisClass := this
  superClass := sup
  interfaces := ifs
  fields := fds
  methods := ms
  attributes := attrs
def plain (name : String) (sup : Option ClassId) : Class where
  name := name
  kind := .ordinary
  loader := none
  accessFlags := 33
  super := sup
  interfaces := #[]
  cf := none
  fields := #[]
  methods := #[]
  instanceTypes := #[]
  staticTypes := #[]
  resolved := #[]
  callSites := []
  init := .initialized
  statics := none
  mirror := none

def pool0 : Array CpInfo := pool [(5, u "<init>"), (0, u "()V"), (1, .class_ 10), (1, u "java/lang/Object")] 113

def k0c0 : Code := { maxStack := 0, maxLocals := 1, code := object_method_1_code, exceptionTable := #[], attributes := #[] }
def k0m0 : Method := { name := "<init>", desc := "()V", sig := { parameters := [], returnType := none }, accessFlags := 1, code := some k0c0 }
/-- java/lang/Object -/
def k0 : Class := { plain "java/lang/Object" none with
  accessFlags := 33
  interfaces := #[]
  cf := some (fileOf pool0 8 #[] #[{ accessFlags := 1, nameIndex := 5, descriptorIndex := 6, attributes := #[] }] 33 0 #[] #[])
  fields := #[]
  methods := #[k0m0]
  instanceTypes := #[]
  staticTypes := #[]
  resolved := Array.replicate 124 none
  statics := none }

def pool1 : Array CpInfo := pool [(2, .class_ 4), (1, u "java/lang/Object"), (0, u "<init>"), (0, u "()V"), (0, .class_ 8), (0, u "com/example/demitasse/demitasse/source/Position"), (0, .methodref 7 10), (0, .nameAndType 5 11), (0, u "(II)V"), (0, .methodref 13 14), (0, .class_ 15), (0, .nameAndType 16 17), (0, u "com/example/demitasse/demitasse/source/PositionCompareToPinLaw"), (0, u "cmp"), (0, u "(II)I"), (0, .methodref 7 19), (0, .nameAndType 20 21), (0, u "compareTo"), (0, u "(Lcom/example/demitasse/demitasse/source/Position;)I"), (0, .methodref 13 23), (0, .nameAndType 24 25), (0, u "sign"), (0, u "(I)I"), (3, u "law"), (0, u "(IIIII)Z")] 2

def k1m0 : Method := { name := "<init>", desc := "()V", sig := { parameters := [], returnType := none }, accessFlags := 1, code := none }
def k1c1 : Code := { maxStack := 1, maxLocals := 1, code := method_2_code, exceptionTable := #[], attributes := #[] }
def k1m1 : Method := { name := "sign", desc := "(I)I", sig := { parameters := [.int], returnType := some .int }, accessFlags := 10, code := some k1c1 }
def k1c2 : Code := { maxStack := 2, maxLocals := 2, code := method_3_code, exceptionTable := #[], attributes := #[] }
def k1m2 : Method := { name := "cmp", desc := "(II)I", sig := { parameters := [.int, .int], returnType := some .int }, accessFlags := 10, code := some k1c2 }
def k1c3 : Code := { maxStack := 4, maxLocals := 12, code := code, exceptionTable := #[], attributes := #[] }
def k1m3 : Method := { name := "law", desc := "(IIIII)Z", sig := { parameters := [.int, .int, .int, .int, .int], returnType := some .boolean }, accessFlags := 9, code := some k1c3 }
/-- com/example/demitasse/demitasse/source/PositionCompareToPinLaw -/
def k1 : Class := { plain "com/example/demitasse/demitasse/source/PositionCompareToPinLaw" (some 0) with
  accessFlags := 49
  interfaces := #[]
  cf := some (fileOf pool1 13 #[] #[{ accessFlags := 1, nameIndex := 5, descriptorIndex := 6, attributes := #[] }, { accessFlags := 10, nameIndex := 24, descriptorIndex := 25, attributes := #[] }, { accessFlags := 10, nameIndex := 16, descriptorIndex := 17, attributes := #[] }, { accessFlags := 9, nameIndex := 29, descriptorIndex := 30, attributes := #[] }] 49 2 #[] #[])
  fields := #[]
  methods := #[k1m0, k1m1, k1m2, k1m3]
  instanceTypes := #[]
  staticTypes := #[]
  resolved := Array.replicate 33 none
  statics := none }

def pool2 : Array CpInfo := pool [(1, .methodref 2 3), (0, .class_ 4), (0, .nameAndType 5 6), (0, u "java/lang/Object"), (0, u "<init>"), (0, u "()V"), (0, .class_ 8), (0, u "java/lang/Record")] 13

def k2c0 : Code := { maxStack := 1, maxLocals := 1, code := jdk_30_method_1_code, exceptionTable := #[], attributes := #[] }
def k2m0 : Method := { name := "<init>", desc := "()V", sig := { parameters := [], returnType := none }, accessFlags := 4, code := some k2c0 }
/-- java/lang/Record -/
def k2 : Class := { plain "java/lang/Record" (some 0) with
  accessFlags := 1057
  interfaces := #[]
  cf := some (fileOf pool2 7 #[] #[{ accessFlags := 4, nameIndex := 5, descriptorIndex := 6, attributes := #[] }] 1057 2 #[] #[])
  fields := #[]
  methods := #[k2m0]
  instanceTypes := #[]
  staticTypes := #[]
  resolved := Array.replicate 22 none
  statics := none }

def pool3 : Array CpInfo := pool [(1, .class_ 2), (0, u "java/lang/Comparable"), (0, .class_ 4), (0, u "java/lang/Object")] 7

/-- java/lang/Comparable -/
def k3 : Class := { plain "java/lang/Comparable" (some 0) with
  accessFlags := 1537
  interfaces := #[]
  cf := some (fileOf pool3 1 #[] #[] 1537 3 #[] #[])
  fields := #[]
  methods := #[]
  instanceTypes := #[]
  staticTypes := #[]
  resolved := Array.replicate 12 none
  statics := none }

def pool4 : Array CpInfo := pool [(1, .methodref 2 3), (0, .class_ 4), (0, .nameAndType 5 6), (0, u "java/lang/Record"), (0, u "<init>"), (0, u "()V"), (0, .fieldref 8 9), (0, .class_ 10), (0, .nameAndType 11 12), (0, u "com/example/demitasse/demitasse/source/Position"), (0, u "line"), (0, u "I"), (0, .fieldref 8 14), (0, .nameAndType 15 12), (0, u "column"), (0, .methodref 17 18), (0, .class_ 19), (0, .nameAndType 20 21), (0, u "java/lang/Integer"), (0, u "compare"), (0, u "(II)I"), (6, u "compareTo"), (0, u "(Lcom/example/demitasse/demitasse/source/Position;)I"), (7, .class_ 38), (0, u "java/lang/Comparable"), (0, u "(II)V")] 40

def k4c0 : Code := { maxStack := 2, maxLocals := 3, code := prog_30_method_1_code, exceptionTable := #[], attributes := #[] }
def k4m0 : Method := { name := "<init>", desc := "(II)V", sig := { parameters := [.int, .int], returnType := none }, accessFlags := 1, code := some k4c0 }
def k4c1 : Code := { maxStack := 2, maxLocals := 3, code := prog_30_method_2_code, exceptionTable := #[], attributes := #[] }
def k4m1 : Method := { name := "compareTo", desc := "(Lcom/example/demitasse/demitasse/source/Position;)I", sig := { parameters := [(.object "com/example/demitasse/demitasse/source/Position")], returnType := some .int }, accessFlags := 1, code := some k4c1 }
/-- com/example/demitasse/demitasse/source/Position -/
def k4 : Class := { plain "com/example/demitasse/demitasse/source/Position" (some 2) with
  accessFlags := 49
  interfaces := #[3]
  cf := some (fileOf pool4 8 #[] #[{ accessFlags := 1, nameIndex := 5, descriptorIndex := 39, attributes := #[] }, { accessFlags := 1, nameIndex := 28, descriptorIndex := 29, attributes := #[] }] 49 2 #[37] #[{ accessFlags := 18, nameIndex := 11, descriptorIndex := 12, attributes := #[] }, { accessFlags := 18, nameIndex := 15, descriptorIndex := 12, attributes := #[] }])
  fields := #[{ name := "line", type := .int, accessFlags := 18, slot := 0, constantValue := 0 }, { name := "column", type := .int, accessFlags := 18, slot := 1, constantValue := 0 }]
  methods := #[k4m0, k4m1]
  instanceTypes := #[.int, .int]
  staticTypes := #[]
  resolved := Array.replicate 80 none
  statics := none }

def pool5 : Array CpInfo := pool [(1, .class_ 2), (0, u "java/io/Serializable"), (0, .class_ 4), (0, u "java/lang/Object")] 2

/-- java/io/Serializable -/
def k5 : Class := { plain "java/io/Serializable" (some 0) with
  accessFlags := 1537
  interfaces := #[]
  cf := some (fileOf pool5 1 #[] #[] 1537 3 #[] #[])
  fields := #[]
  methods := #[]
  instanceTypes := #[]
  staticTypes := #[]
  resolved := Array.replicate 7 none
  statics := none }

def pool6 : Array CpInfo := pool [(2, .class_ 4), (1, u "java/lang/Object"), (0, u "<init>"), (0, u "()V"), (1, .class_ 10), (1, u "java/lang/Number"), (2, .class_ 14), (0, u "java/io/Serializable"), (0, u "serialVersionUID"), (0, u "J")] 20

def k6m0 : Method := { name := "<init>", desc := "()V", sig := { parameters := [], returnType := none }, accessFlags := 1, code := none }
/-- java/lang/Number -/
def k6 : Class := { plain "java/lang/Number" (some 0) with
  accessFlags := 1057
  interfaces := #[5]
  cf := some (fileOf pool6 8 #[] #[{ accessFlags := 1, nameIndex := 5, descriptorIndex := 6, attributes := #[] }] 1057 2 #[13] #[{ accessFlags := 26, nameIndex := 15, descriptorIndex := 16, attributes := #[] }])
  fields := #[{ name := "serialVersionUID", type := .long, accessFlags := 26, slot := 0, constantValue := 0 }]
  methods := #[k6m0]
  instanceTypes := #[]
  staticTypes := #[.long]
  resolved := Array.replicate 37 none
  statics := none }

def pool7 : Array CpInfo := pool [(1, .class_ 2), (0, u "java/lang/constant/Constable"), (0, .class_ 4), (0, u "java/lang/Object")] 6

/-- java/lang/constant/Constable -/
def k7 : Class := { plain "java/lang/constant/Constable" (some 0) with
  accessFlags := 1537
  interfaces := #[]
  cf := some (fileOf pool7 1 #[] #[] 1537 3 #[] #[])
  fields := #[]
  methods := #[]
  instanceTypes := #[]
  staticTypes := #[]
  resolved := Array.replicate 11 none
  statics := none }

def pool8 : Array CpInfo := pool [(1, .class_ 2), (0, u "java/lang/constant/ConstantDesc"), (0, .class_ 4), (0, u "java/lang/Object")] 32

/-- java/lang/constant/ConstantDesc -/
def k8 : Class := { plain "java/lang/constant/ConstantDesc" (some 0) with
  accessFlags := 1537
  interfaces := #[]
  cf := some (fileOf pool8 1 #[] #[] 1537 3 #[] #[])
  fields := #[]
  methods := #[]
  instanceTypes := #[]
  staticTypes := #[]
  resolved := Array.replicate 37 none
  statics := none }

def pool9 : Array CpInfo := pool [(1, .class_ 2), (0, u "java/lang/Integer"), (16, u "digits"), (0, u "[C"), (39, u "(II)I"), (24, u "DigitOnes"), (0, u "[B"), (2, u "DigitTens"), (99, .class_ 190), (0, u "java/lang/Integer$IntegerCache"), (3, u "I"), (8, .class_ 204), (0, u "java/lang/Number"), (2, u "value"), (53, u "compare"), (40, u "TYPE"), (0, u "Ljava/lang/Class;"), (0, .class_ 305), (0, u "java/lang/Comparable"), (0, .class_ 307), (0, u "java/lang/constant/Constable"), (0, .class_ 309), (0, u "java/lang/constant/ConstantDesc"), (0, u "MIN_VALUE"), (1, u "MAX_VALUE"), (3, u "SIZE"), (1, u "BYTES"), (1, u "serialVersionUID"), (0, u "J")] 131

def k9c0 : Code := { maxStack := 2, maxLocals := 2, code := jdk_33_method_40_code, exceptionTable := #[], attributes := #[] }
def k9m0 : Method := { name := "compare", desc := "(II)I", sig := { parameters := [.int, .int], returnType := some .int }, accessFlags := 9, code := some k9c0 }
/-- java/lang/Integer -/
def k9 : Class := { plain "java/lang/Integer" (some 6) with
  accessFlags := 49
  interfaces := #[3, 7, 8]
  cf := some (fileOf pool9 1 #[.nestMembers #[189]] #[{ accessFlags := 9, nameIndex := 261, descriptorIndex := 60, attributes := #[] }] 49 203 #[304, 306, 308] #[{ accessFlags := 25, nameIndex := 310, descriptorIndex := 194, attributes := #[] }, { accessFlags := 25, nameIndex := 312, descriptorIndex := 194, attributes := #[] }, { accessFlags := 25, nameIndex := 302, descriptorIndex := 303, attributes := #[] }, { accessFlags := 24, nameIndex := 19, descriptorIndex := 20, attributes := #[] }, { accessFlags := 24, nameIndex := 89, descriptorIndex := 86, attributes := #[] }, { accessFlags := 24, nameIndex := 85, descriptorIndex := 86, attributes := #[] }, { accessFlags := 18, nameIndex := 207, descriptorIndex := 194, attributes := #[] }, { accessFlags := 25, nameIndex := 316, descriptorIndex := 194, attributes := #[] }, { accessFlags := 25, nameIndex := 318, descriptorIndex := 194, attributes := #[] }, { accessFlags := 26, nameIndex := 320, descriptorIndex := 321, attributes := #[] }])
  fields := #[{ name := "MIN_VALUE", type := .int, accessFlags := 25, slot := 0, constantValue := 0 }, { name := "MAX_VALUE", type := .int, accessFlags := 25, slot := 1, constantValue := 0 }, { name := "TYPE", type := (.object "java/lang/Class"), accessFlags := 25, slot := 2, constantValue := 0 }, { name := "digits", type := (.array .char), accessFlags := 24, slot := 3, constantValue := 0 }, { name := "DigitTens", type := (.array .byte), accessFlags := 24, slot := 4, constantValue := 0 }, { name := "DigitOnes", type := (.array .byte), accessFlags := 24, slot := 5, constantValue := 0 }, { name := "value", type := .int, accessFlags := 18, slot := 0, constantValue := 0 }, { name := "SIZE", type := .int, accessFlags := 25, slot := 6, constantValue := 0 }, { name := "BYTES", type := .int, accessFlags := 25, slot := 7, constantValue := 0 }, { name := "serialVersionUID", type := .long, accessFlags := 26, slot := 8, constantValue := 0 }]
  methods := #[k9m0]
  instanceTypes := #[.int]
  staticTypes := #[.int, .int, (.object "java/lang/Class"), (.array .char), (.array .byte), (.array .byte), .int, .int, .long]
  resolved := Array.replicate 453 none
  statics := none }

def pool10 : Array CpInfo := pool [(1, u "java/lang/Cloneable"), (0, .class_ 1), (0, u "java/lang/Object"), (0, .class_ 3)] 3

/-- java/lang/Cloneable -/
def k10 : Class := { plain "java/lang/Cloneable" (some 0) with
  accessFlags := 1537
  interfaces := #[]
  cf := some (fileOf pool10 2 #[] #[] 1537 4 #[] #[])
  fields := #[]
  methods := #[]
  instanceTypes := #[]
  staticTypes := #[]
  resolved := Array.replicate 8 none
  statics := none }

/-- the primitive byte -/
def k11 : Class := { plain "byte" none with kind := .primitive 'B', accessFlags := 0x411 }
/-- [B -/
def k12 : Class := { plain "[B" (some 0) with kind := .array 11 .byte, interfaces := #[10, 5], accessFlags := 1041 }

/-- the primitive int -/
def k13 : Class := { plain "int" none with kind := .primitive 'I', accessFlags := 0x411 }
/-- [I -/
def k14 : Class := { plain "[I" (some 0) with kind := .array 13 .int, interfaces := #[10, 5], accessFlags := 1041 }

def heap : Heap := #[]
def classes : Array Class := #[k0, k1, k2, k3, k4, k5, k6, k7, k8, k9, k10, k11, k12, k13, k14]
def interned : List (Array UInt16 × Addr) := []
def slotsUsed : Nat := 0
def theMethod : MethodId := ⟨1, 3⟩
def args0 : Array Value := #[.int 5, .int 7, .int 5, .int 8, .int 0]
def aboutOver (below : List Frame) : State where
  vm := { classes := classes, interned := interned.toArray }
  heap := heap
  slotsUsed := slotsUsed
  threads := #[{ frames := .invoking theMethod args0 :: below }]
def below0 : List Frame := [.native { method := ⟨0, 0⟩, args := #[] }]
def about1 : State := aboutOver below0
def p0 : Program := .bare "" "" ""
def e0 : Env := launch0.env 0 0 0
theorem w_frames : about1.frames = Frame.invoking theMethod args0 :: below0 := rfl
set_option maxRecDepth 65536 in
theorem w_args : argsFit about1.vm theMethod args0 = true := by decide +kernel
set_option maxRecDepth 65536 in
theorem w_heap : heapFits about1 = true := by decide +kernel
set_option maxRecDepth 65536 in
theorem w_runnable : about1.curStatus? = some .runnable := by decide +kernel
set_option maxRecDepth 65536 in
theorem w_alone : about1.alone = true := by decide +kernel
set_option maxRecDepth 65536 in
theorem w_named : about1.methodNamed? x = some theMethod := by decide +kernel
set_option maxRecDepth 65536 in
theorem w_hears : about1.hears theMethod below0 = true := by decide +kernel
set_option maxRecDepth 65536 in
theorem w_ripe : about1.ripe theMethod args0 below0 = true := by decide +kernel
theorem w_running : about1.status = .running := rfl
set_option maxRecDepth 65536 in
theorem w_room : about1.hasRoom e0.platform room_1 = true :=
  launch0.hasRoom_least _ room_1 (by decide +kernel) (by decide +kernel) (by decide +kernel) (by decide +kernel) (by decide +kernel) (by decide +kernel)
theorem allAtoms_all (ts : List Jvm.Cond) (a : Array Jvm.Value) (st : Jvm.State) : (allAtoms ts).before a st = ts.all (fun c => c.before a st) := by
  induction ts with
  | nil => rfl
  | cons c t ih =>
    show (Jvm.Cond.and c (allAtoms t)).before a st = _
    rw [Jvm.Cond.before_and, ih, List.all_cons]
def words1 : List Jvm.Cond := Jvm.Cond.code x code maxLocals ret :: tables_1
/-- a 'code' word, met by the world's own term for the bytes: nothing is compared byte by byte -/
theorem code_word {y : MethodName} {bytes : ByteArray} {mx : Nat} {rt : Option FieldType} {a : Array Value} {s : State} {m : MethodId} {meth : Method} {c : Code} (h1 : s.methodNamed? y = some m) (h2 : s.vm.method? m = some meth) (h3 : meth.code = some c) (h4 : c.code = bytes)
    (h5 : (c.maxLocals == mx && c.exceptionTable.isEmpty && decide (c.maxStack ≤ mostOperands) && decide (meth.sig.returnType = rt) && !meth.locks && decide (parseMethodDescriptor y.desc = some meth.sig)) = true) : (Jvm.Cond.code y bytes mx rt).before a s = true := by
  simp only [Bool.and_eq_true, beq_iff_eq, Bool.not_eq_true', decide_eq_true_eq] at h5
  obtain ⟨⟨⟨⟨⟨g1, g2⟩, g3⟩, g4⟩, g5⟩, g6⟩ := h5
  simp [Cond.before, Cond.holds, Cond.value, h1, h2, h3, h4, g1, g2, g3, g4, g5, g6]
def isCode : Jvm.Cond → Bool
  | .code _ _ _ _ => true
  | _ => false
theorem all_split {L : List Jvm.Cond} {P : Jvm.Cond → Bool} (h1 : L.all (fun c => isCode c || P c) = true) (h2 : ∀ c ∈ L.filter isCode, P c = true) : L.all P = true := by
  refine List.all_eq_true.mpr fun c hc => ?_
  have h := List.all_eq_true.mp h1 c hc
  rcases Bool.eq_false_or_eq_true (isCode c) with hi | hi
  · exact h2 c (List.mem_filter.mpr ⟨hc, hi⟩)
  · simpa [hi] using h
set_option maxRecDepth 65536 in
theorem w_c0 : (Jvm.Cond.code x code maxLocals ret).before args0 about1 = true := code_word (m := ⟨1, 3⟩) (meth := k1m3) (c := k1c3) (by decide +kernel) rfl rfl rfl (by decide +kernel)
set_option maxRecDepth 65536 in
theorem w_c1 : (Jvm.Cond.code ({ cls := "com/example/demitasse/demitasse/source/Position", name := "<init>", desc := "(II)V" } : Jvm.MethodName) prog_30_method_1_code (3 : Nat) (Option.none : Option Jvm.ClassFile.FieldType)).before args0 about1 = true := code_word (m := ⟨4, 0⟩) (meth := k4m0) (c := k4c0) (by decide +kernel) rfl rfl rfl (by decide +kernel)
set_option maxRecDepth 65536 in
theorem w_c2 : (Jvm.Cond.code ({ cls := "java/lang/Record", name := "<init>", desc := "()V" } : Jvm.MethodName) jdk_30_method_1_code (1 : Nat) (Option.none : Option Jvm.ClassFile.FieldType)).before args0 about1 = true := code_word (m := ⟨2, 0⟩) (meth := k2m0) (c := k2c0) (by decide +kernel) rfl rfl rfl (by decide +kernel)
set_option maxRecDepth 65536 in
theorem w_c3 : (Jvm.Cond.code ({ cls := "java/lang/Object", name := "<init>", desc := "()V" } : Jvm.MethodName) object_method_1_code (1 : Nat) (Option.none : Option Jvm.ClassFile.FieldType)).before args0 about1 = true := code_word (m := ⟨0, 0⟩) (meth := k0m0) (c := k0c0) (by decide +kernel) rfl rfl rfl (by decide +kernel)
set_option maxRecDepth 65536 in
theorem w_c4 : (Jvm.Cond.code ({ cls := "com/example/demitasse/demitasse/source/PositionCompareToPinLaw", name := "cmp", desc := "(II)I" } : Jvm.MethodName) method_3_code (2 : Nat) (Option.some Jvm.ClassFile.FieldType.int)).before args0 about1 = true := code_word (m := ⟨1, 2⟩) (meth := k1m2) (c := k1c2) (by decide +kernel) rfl rfl rfl (by decide +kernel)
set_option maxRecDepth 65536 in
theorem w_c5 : (Jvm.Cond.code ({ cls := "com/example/demitasse/demitasse/source/Position", name := "compareTo", desc := "(Lcom/example/demitasse/demitasse/source/Position;)I" } : Jvm.MethodName) prog_30_method_2_code (3 : Nat) (Option.some Jvm.ClassFile.FieldType.int)).before args0 about1 = true := code_word (m := ⟨4, 1⟩) (meth := k4m1) (c := k4c1) (by decide +kernel) rfl rfl rfl (by decide +kernel)
set_option maxRecDepth 65536 in
theorem w_c6 : (Jvm.Cond.code ({ cls := "java/lang/Integer", name := "compare", desc := "(II)I" } : Jvm.MethodName) jdk_33_method_40_code (2 : Nat) (Option.some Jvm.ClassFile.FieldType.int)).before args0 about1 = true := code_word (m := ⟨9, 0⟩) (meth := k9m0) (c := k9c0) (by decide +kernel) rfl rfl rfl (by decide +kernel)
set_option maxRecDepth 65536 in
theorem w_c7 : (Jvm.Cond.code ({ cls := "com/example/demitasse/demitasse/source/PositionCompareToPinLaw", name := "sign", desc := "(I)I" } : Jvm.MethodName) method_2_code (1 : Nat) (Option.some Jvm.ClassFile.FieldType.int)).before args0 about1 = true := code_word (m := ⟨1, 1⟩) (meth := k1m1) (c := k1c1) (by decide +kernel) rfl rfl rfl (by decide +kernel)
def codes1 : List Jvm.Cond := [Jvm.Cond.code x code maxLocals ret, Jvm.Cond.code ({ cls := "com/example/demitasse/demitasse/source/Position", name := "<init>", desc := "(II)V" } : Jvm.MethodName) prog_30_method_1_code (3 : Nat) (Option.none : Option Jvm.ClassFile.FieldType), Jvm.Cond.code ({ cls := "java/lang/Record", name := "<init>", desc := "()V" } : Jvm.MethodName) jdk_30_method_1_code (1 : Nat) (Option.none : Option Jvm.ClassFile.FieldType), Jvm.Cond.code ({ cls := "java/lang/Object", name := "<init>", desc := "()V" } : Jvm.MethodName) object_method_1_code (1 : Nat) (Option.none : Option Jvm.ClassFile.FieldType), Jvm.Cond.code ({ cls := "com/example/demitasse/demitasse/source/PositionCompareToPinLaw", name := "cmp", desc := "(II)I" } : Jvm.MethodName) method_3_code (2 : Nat) (Option.some Jvm.ClassFile.FieldType.int), Jvm.Cond.code ({ cls := "com/example/demitasse/demitasse/source/Position", name := "compareTo", desc := "(Lcom/example/demitasse/demitasse/source/Position;)I" } : Jvm.MethodName) prog_30_method_2_code (3 : Nat) (Option.some Jvm.ClassFile.FieldType.int), Jvm.Cond.code ({ cls := "java/lang/Integer", name := "compare", desc := "(II)I" } : Jvm.MethodName) jdk_33_method_40_code (2 : Nat) (Option.some Jvm.ClassFile.FieldType.int), Jvm.Cond.code ({ cls := "com/example/demitasse/demitasse/source/PositionCompareToPinLaw", name := "sign", desc := "(I)I" } : Jvm.MethodName) method_2_code (1 : Nat) (Option.some Jvm.ClassFile.FieldType.int)]
set_option maxRecDepth 65536 in
theorem codes_eq : words1.filter isCode = codes1 := rfl
theorem w_codes : ∀ c ∈ words1.filter isCode, c.before args0 about1 = true := by
  rw [codes_eq]
  intro c hc
  simp only [codes1, List.mem_cons, List.not_mem_nil, or_false] at hc
  rcases hc with rfl | rfl | rfl | rfl | rfl | rfl | rfl | rfl
  · exact w_c0
  · exact w_c1
  · exact w_c2
  · exact w_c3
  · exact w_c4
  · exact w_c5
  · exact w_c6
  · exact w_c7
set_option maxRecDepth 65536 in
theorem w_t1 : (words1.take 24).all (fun c => isCode c || c.before args0 about1) = true := by decide +kernel
set_option maxRecDepth 65536 in
theorem w_t2 : (words1.drop 24).all (fun c => isCode c || c.before args0 about1) = true := by decide +kernel
theorem w_tables : (allAtoms (Jvm.Cond.code x code maxLocals ret :: tables_1)).before args0 about1 = true := by
  rw [allAtoms_all]
  show words1.all (fun c => c.before args0 about1) = true
  refine all_split ?_ w_codes
  rw [← List.take_append_drop 24 words1, List.all_append, w_t1, w_t2]
  rfl
set_option maxRecDepth 65536 in
theorem w_case : (Jvm.Cond.and given_1 narrow_1).before args0 about1 = true := by decide +kernel
theorem w_applies : (headSpec (Jvm.Cond.code x code maxLocals ret :: tables_1) room_1).applies x e0.platform about1 = true :=
  (Spec.applies_iff w_frames).mpr ⟨w_running, w_runnable, w_alone, w_named, w_hears, w_ripe, w_room, w_tables⟩
theorem atStart : AtStart classFile x code maxLocals ret World_1 tables_1 room_1 Calls_1 rest_1 Pre_1 launch0 p0 e0 about1 theMethod args0 below0 :=
  ⟨lists_1, trivial, launch0.admits_env _ _ _, launch0.least_env, fairChoices_fair.cas, fairChoices_fair.clock, w_frames, w_args, w_heap, w_applies, trivial, trivial, w_case⟩
end start1
theorem witness_1 : WitnessClaimed_1 := ⟨start1.p0, start1.e0, start1.about1, start1.theMethod, start1.args0, start1.below0, start1.atStart⟩
end Jvm.Pilot.@@N@@
