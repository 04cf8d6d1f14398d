import JvmDerived
import JvmDerived.Pilot.@@N@@Statement
import JvmDerived.Pilot.@@N@@Code
set_option linter.unusedVariables false
set_option linter.unusedSimpArgs false
@@BLOCK:NumsL.lean.txt@@
namespace Jvm.Pilot.@@N@@
open Jvm Jvm.ClassFile Sem Op Lib Jvm.Free Jvm.Stand Jvm.LawKit Jvm.RoadKit Bundle Jvm.Pilot.@@N@@.Jvm.D
/-- Java's x >>> y on longs -/
def own_uL (x : Int64) (y : Int32) : Int64 := (x.toUInt64 >>> (y &&& 63).toInt64.toUInt64).toInt64
section Own
variable {p : Program} {l : Launch} {e : Env} {R : Room} {s : State} {m : MethodId} {args : Array Value} {below : List Frame} {meth : Method} {c : Code} {T : State} {locs : List Loc} {cells slots : Nat}
variable {ck sk : Nat} {Q : Option Value → Heap → List Loc → Prop}
/-- the run from u comes to the method's return, and Q holds there -/
def oF (p : Program) (e : Env) (below : List Frame) (s : State) (ck sk : Nat) (Q : Option Value → Heap → List Loc → Prop) (u : State) : Prop :=
  ∃ t o, Steps p.tables e below u t ∧ t.status = .running ∧ Ended t below o ∧ ∃ v L, o = .returned v ∧ Q v t.heap L ∧ FrameEnd s o t L ck sk
theorem oS {u u' : State} (h : ∀ t, Steps p.tables e below u' t → Steps p.tables e below u t) (k : oF p e below s ck sk Q u') : oF p e below s ck sk Q u := by
  obtain ⟨t, o, h1, r⟩ := k
  exact ⟨t, o, h t h1, r⟩
theorem oC {u : State} (X : Stand p l e R s m args below meth c T locs cells slots) {h : Heap} (E : T.heap = h) {f : JFrame}
    (rest : ∀ Tc, Stand p l e R s m args below meth c Tc locs cells slots → Tc.heap = h → oF p e below s ck sk Q (Tc.setTop f))
    (k : (∀ Tc, Stand p l e R s m args below meth c Tc locs cells slots → Tc.heap = h → oF p e below s ck sk Q (Tc.setTop f)) → oF p e below s ck sk Q u) : oF p e below s ck sk Q u := k rest
theorem own_ret (X : Stand p l e R s m args below meth c T locs cells slots) (hlk : meth.locks = false) {v : Option Value} (hv : meth.sig.returnType = none → v = none) {g : JFrame}
    (st : ∀ fs, (∀ (f : JFrame) (acts : List Action), f.method = m → f.locked = none → f.entered = [] → (doReturn e (T.setTop f) acts v).1 = T.setFrames fs) → Steps p.tables e below (T.setTop g) (T.setFrames fs))
    (hQ : Q v T.heap locs) (hc : cells ≤ ck) (hs : slots ≤ sk) : oF p e below s ck sk Q (T.setTop g) := by
  obtain ⟨fs, hr, hrun, hended, hW, hsame⟩ := X.leave (v := v) hv hlk
  exact ⟨_, _, st fs hr, hrun, hended, v, locs, rfl, hQ, ⟨_, rfl⟩, hW, hsame.mono hc hs⟩
theorem own_retI (X : Stand p l e R s m args below meth c T locs cells slots) (hx : p.tables.exec = Jvm.exec) (hlk : meth.locks = false) {pc : Nat} {Ls : Array Slot} {z : Int32} {rest : List Value} (hret : meth.sig.returnType = some .int)
    (hd : decode c.code pc = .ok (.ireturn, 1)) (hQ : Q (some (.int z)) T.heap locs) (hc : cells ≤ ck) (hs : slots ≤ sk) : oF p e below s ck sk Q (T.setTop (mkF m pc Ls (.int z :: rest))) :=
  own_ret X hlk (fun h => by rw [hret] at h; cases h) (fun fs hl => retOut X hx hret rfl (Or.inl ⟨rfl, Or.inl rfl, _, rfl⟩) hd hl) hQ hc hs
theorem own_retJ (X : Stand p l e R s m args below meth c T locs cells slots) (hx : p.tables.exec = Jvm.exec) (hlk : meth.locks = false) {pc : Nat} {Ls : Array Slot} {z : Int64} {rest : List Value} (hret : meth.sig.returnType = some .long)
    (hd : decode c.code pc = .ok (.lreturn, 1)) (hQ : Q (some (.long z)) T.heap locs) (hc : cells ≤ ck) (hs : slots ≤ sk) : oF p e below s ck sk Q (T.setTop (mkF m pc Ls (.long z :: rest))) :=
  own_ret X hlk (fun h => by rw [hret] at h; cases h) (fun fs hl => retOut X hx hret rfl (Or.inr (Or.inl ⟨rfl, rfl, _, rfl⟩)) hd hl) hQ hc hs
theorem own_retD (X : Stand p l e R s m args below meth c T locs cells slots) (hx : p.tables.exec = Jvm.exec) (hlk : meth.locks = false) {pc : Nat} {Ls : Array Slot} {z : UInt64} {rest : List Value} (hret : meth.sig.returnType = some .double)
    (hd : decode c.code pc = .ok (.dreturn, 1)) (hQ : Q (some (.double z)) T.heap locs) (hc : cells ≤ ck) (hs : slots ≤ sk) : oF p e below s ck sk Q (T.setTop (mkF m pc Ls (.double z :: rest))) :=
  own_ret X hlk (fun h => by rw [hret] at h; cases h) (fun fs hl => retOut X hx hret rfl (Or.inr (Or.inr (Or.inl ⟨rfl, rfl, _, rfl⟩))) hd hl) hQ hc hs
theorem own_retA (X : Stand p l e R s m args below meth c T locs cells slots) (hx : p.tables.exec = Jvm.exec) (hlk : meth.locks = false) {pc : Nat} {Ls : Array Slot} {w : Value} {t : FieldType} {rest : List Value} (hret : meth.sig.returnType = some t) (ht : t.isReference = true) (hr : w.isRef = true)
    (hd : decode c.code pc = .ok (.areturn, 1)) (hQ : Q (some w) T.heap locs) (hc : cells ≤ ck) (hs : slots ≤ sk) : oF p e below s ck sk Q (T.setTop (mkF m pc Ls (w :: rest))) :=
  own_ret X hlk (fun h => by rw [hret] at h; cases h) (fun fs hl => retOut X hx hret (by cases t <;> first | (cases ht; done) | (cases w <;> first | rfl | (cases hr; done))) (Or.inr (Or.inr (Or.inr (Or.inr ⟨rfl, ht, hr⟩)))) hd hl) hQ hc hs
theorem own_retN (X : Stand p l e R s m args below meth c T locs cells slots) (hx : p.tables.exec = Jvm.exec) (hlk : meth.locks = false) {pc : Nat} {Ls : Array Slot} {z : Int32} {t : FieldType} {rest : List Value} (hret : meth.sig.returnType = some t) (ht : t = .boolean ∨ t = .byte ∨ t = .char ∨ t = .short)
    (hd : decode c.code pc = .ok (.ireturn, 1)) (hQ : Q (some (.int (nar t z))) T.heap locs) (hc : cells ≤ ck) (hs : slots ≤ sk) : oF p e below s ck sk Q (T.setTop (mkF m pc Ls (.int z :: rest))) :=
  own_ret X hlk (fun h => by rw [hret] at h; cases h) (fun fs hl => retN X hx hret ht hd hl) hQ hc hs
theorem own_ret0 (X : Stand p l e R s m args below meth c T locs cells slots) (hx : p.tables.exec = Jvm.exec) (hlk : meth.locks = false) {pc : Nat} {Ls : Array Slot} (hret : meth.sig.returnType = none)
    (hd : decode c.code pc = .ok (.return_, 1)) (hQ : Q none T.heap locs) (hc : cells ≤ ck) (hs : slots ≤ sk) : oF p e below s ck sk Q (T.setTop (mkF m pc Ls [])) :=
  own_ret X hlk (fun _ => rfl) (fun fs hl => X.returnOut hx hret hd hl) hQ hc hs
/-- a body's contract: called with as' on the heap h it returns, and Q says what it leaves -/
def own_Con (l : Launch) (Z : State) (ws : List Jvm.Cond) (y : MethodName) (bytes : ByteArray) (maxL : Nat) (rt : Option FieldType) (rm : Room) (as' : Array Value) (h : Heap) (Q : Option Value → Heap → List Loc → Prop) : Prop :=
  MetFree l y (head1 (Jvm.Cond.code y bytes maxL rt :: ws) rm) (fun a U => a = as' ∧ Z.Warmed39 U.vm ∧ U.heap = h) (fun _ _ _ _ _ => True) (fun _ U o U' => ∃ v L, o = .returned v ∧ Q v U'.heap L ∧ FrameEnd U o U' L rm.cells rm.slots)
/-- it returns r, and the heap is as it was -/
def own_Q1 (r : Option Value) (h : Heap) : Option Value → Heap → List Loc → Prop := fun v h' L => v = r ∧ h' = h ∧ L = []
variable {Z : State} {a0 : Array Value} {h h' : Heap}
theorem own_body {ws : List Jvm.Cond} {y : MethodName} {bytes : ByteArray} {maxL : Nat} {rt : Option FieldType} {rm : Room} {as' : Array Value} (hpn : plainFor y = true)
    (H : ∀ (p : Program) (e : Env) (s : State) (m : MethodId) (below : List Frame) (meth : Method) (c : Code) (s₁ : State), Stand p l e rm s m as' below meth c s₁ [] 0 0 → p.tables.exec = Jvm.exec → c.code = bytes → c.maxLocals = maxL → meth.sig.returnType = rt → meth.locks = false → s.vm.findClass y.cls = some m.cls → meth.name = y.name → Z.Warmed39 s.vm → s₁.heap = h →
      oF p e below s rm.cells rm.slots Q (s₁.setTop (entryFrame m as' maxL))) : own_Con l Z ws y bytes maxL rt rm as' h Q := by
  refine MetFree.of_bodySF hpn hisR ?_
  intro p e s m args below meth c s₁ Bd hml0 hP hK
  obtain ⟨rfl, hZ, hh⟩ := hP
  exact H p e s m below meth c s₁ (Stand.of_body Bd) Bd.exec Bd.bytes hml0 Bd.returns (BodyLoose.notSynchronized Bd) (findClass_of_methodNamed Bd.named) (name_of_methodNamed Bd.named Bd.method).1 hZ (by rw [← hh, Bd.state]; rfl)
theorem own_callS (X : Stand p l e R s m args below meth c T locs cells slots) (hx : p.tables.exec = Jvm.exec) (hZ : Z.Warmed39 s.vm) {own : String} {index : Nat} {y : MethodName} {bytes : ByteArray} {maxL : Nat} {rt : Option FieldType} (hown : s.vm.findClass own = some m.cls)
    (w1 : (Jvm.Cond.methodLink own index y).before a0 Z = true) (w2 : (Jvm.Cond.static y).before a0 Z = true) (w4 : (Jvm.Cond.code y bytes maxL rt).before a0 Z = true) (w3 : (Jvm.Cond.initialized y.cls).before a0 Z = true) (hy : y.cls ≠ "java/lang/invoke/MethodHandle" ∧ y.cls ≠ "java/lang/invoke/VarHandle")
    (eT : T.heap = h) {rm : Room} {W : Nat} {argsL rest : List Value} (K : own_Con l Z [] y bytes maxL rt rm argsL.toArray h Q) (hf : rm.frames + 1 ≤ R.frames) (hl : W + (maxL + 11) + rm.locals ≤ R.locals)
    {g : JFrame} (hg : g.method = m) (hsize : g.locals.size = c.maxLocals) (hlen : ∀ sig, parseMethodDescriptor y.desc = some sig → argsL.length = sig.parameters.length)
    (hstack : g.stack = argsL.reverse ++ rest) (hW : 2 * g.monitorRoom + (rest.map fun v => v.category).sum ≤ W) (hdg : decode c.code g.pc = .ok (.invokestatic index, 3)) (hc : cells + rm.cells ≤ R.cells) (hs : slots + rm.slots ≤ R.slots) :
    ∃ (v : Option Value) (T' : State) (L : List Loc), Stand p l e R s m args below meth c T' (locs ++ L) (cells + rm.cells) (slots + rm.slots) ∧ Q v T'.heap L ∧
      ∀ target, Steps p.tables e below (T'.setTop { g with pc := g.pc + 3, stack := v.toList ++ rest }) target → Steps p.tables e below (T.setTop g) target := by
  obtain ⟨v, _, ⟨T', L', k', n'⟩, -, X', ⟨L, hQ, q1, q2, q3⟩, st⟩ := Jvm.LawKit.callS X hx hown (mvT hZ w1) (mvT hZ w2) (mvT hZ w3) (mvT hZ w4) hy (backOf (W := W) K hZ w4 w3 hf hl) hg hsize hlen hstack hW hdg (fun _ _ => ⟨rfl, eT, hc, hs⟩)
  dsimp only [Pt.U, Pt.locs, Pt.cells, Pt.slots] at X' q1 q2 q3 st hQ
  subst q1 q2 q3
  exact ⟨v, T', L, X', hQ, st⟩
theorem own_callSP (X : Stand p l e R s m args below meth c T locs cells slots) (hx : p.tables.exec = Jvm.exec) (hZ : Z.Warmed39 s.vm) {own : String} {index : Nat} {y : MethodName} {bytes : ByteArray} {maxL : Nat} {rt : Option FieldType} (hown : s.vm.findClass own = some m.cls)
    (w1 : (Jvm.Cond.methodLink own index y).before a0 Z = true) (w2 : (Jvm.Cond.static y).before a0 Z = true) (w4 : (Jvm.Cond.code y bytes maxL rt).before a0 Z = true) (w3 : (Jvm.Cond.initialized y.cls).before a0 Z = true) (hy : y.cls ≠ "java/lang/invoke/MethodHandle" ∧ y.cls ≠ "java/lang/invoke/VarHandle")
    (eT : T.heap = h) {rf rl : Nat} {W : Nat} {argsL rest : List Value} {r : Value} (K : own_Con l Z [] y bytes maxL rt { frames := rf, cells := 0, slots := 0, locals := rl } argsL.toArray h (own_Q1 (some r) h)) (hf : rf + 1 ≤ R.frames) (hl : W + (maxL + 11) + rl ≤ R.locals)
    {g : JFrame} (hg : g.method = m) (hsize : g.locals.size = c.maxLocals) (hlen : ∀ sig, parseMethodDescriptor y.desc = some sig → argsL.length = sig.parameters.length)
    (hstack : g.stack = argsL.reverse ++ rest) (hW : 2 * g.monitorRoom + (rest.map fun v => v.category).sum ≤ W) (hdg : decode c.code g.pc = .ok (.invokestatic index, 3)) (hc : cells ≤ R.cells) (hs : slots ≤ R.slots) :
    ∃ T' : State, Stand p l e R s m args below meth c T' locs cells slots ∧ T'.heap = h ∧
      ∀ target, Steps p.tables e below (T'.setTop { g with pc := g.pc + 3, stack := r :: rest }) target → Steps p.tables e below (T.setTop g) target := by
  obtain ⟨v, T', L, X', ⟨rfl, hh, rfl⟩, st⟩ := own_callS X hx hZ hown w1 w2 w4 w3 hy eT (W := W) K hf hl hg hsize hlen hstack hW hdg hc hs
  rw [List.append_nil] at X'
  exact ⟨T', X', hh, st⟩
theorem own_callI (X : Stand p l e R s m args below meth c T locs cells slots) (hx : p.tables.exec = Jvm.exec) (hZ : Z.Warmed39 s.vm) {own : String} {index : Nat} {y : MethodName} (hy1 : y.name = "<init>") {bytes : ByteArray} {maxL : Nat} (hown : s.vm.findClass own = some m.cls)
    (w1 : (Jvm.Cond.methodLink own index y).before a0 Z = true) (w2 : (Jvm.Cond.instanceMethod y).before a0 Z = true) (w4 : (Jvm.Cond.code y bytes maxL none).before a0 Z = true) (w3 : (Jvm.Cond.initialized y.cls).before a0 Z = true) (hy : y.cls ≠ "java/lang/invoke/MethodHandle" ∧ y.cls ≠ "java/lang/invoke/VarHandle")
    (eT : T.heap = h) {rm : Room} {W : Nat} {a : Addr} {argsL rest : List Value} (K : own_Con l Z [] y bytes maxL none rm (.ref a :: argsL).toArray h Q) (hf : rm.frames + 1 ≤ R.frames) (hl : W + (maxL + 11) + rm.locals ≤ R.locals)
    {g : JFrame} (hg : g.method = m) (hsize : g.locals.size = c.maxLocals) (hlen : ∀ sig, parseMethodDescriptor y.desc = some sig → argsL.length = sig.parameters.length)
    (hstack : g.stack = argsL.reverse ++ .ref a :: rest) (hW : 2 * g.monitorRoom + (rest.map fun v => v.category).sum ≤ W) (hdg : decode c.code g.pc = .ok (.invokespecial index, 3)) (hc : cells + rm.cells ≤ R.cells) (hs : slots + rm.slots ≤ R.slots) :
    ∃ (v : Option Value) (T' : State) (L : List Loc), Stand p l e R s m args below meth c T' (locs ++ L) (cells + rm.cells) (slots + rm.slots) ∧ Q v T'.heap L ∧
      ∀ target, Steps p.tables e below (T'.setTop { g with pc := g.pc + 3, stack := v.toList ++ rest }) target → Steps p.tables e below (T.setTop g) target := by
  obtain ⟨v, _, ⟨T', L', k', n'⟩, -, X', ⟨L, hQ, q1, q2, q3⟩, st⟩ := X.specialBack hx hy1 hown (mvT hZ w1) (mvT hZ w2) (mvT hZ w4) hy (backOf (W := W) K hZ w4 w3 hf hl) hg hsize (Steps.refl _) (a := a) hlen hstack hW hdg (fun _ _ => ⟨rfl, eT, hc, hs⟩)
  dsimp only [Pt.U, Pt.locs, Pt.cells, Pt.slots] at X' q1 q2 q3 st hQ
  subst q1 q2 q3
  exact ⟨v, T', L, X', hQ, fun t k => st.trans k⟩
theorem own_callIP (X : Stand p l e R s m args below meth c T locs cells slots) (hx : p.tables.exec = Jvm.exec) (hZ : Z.Warmed39 s.vm) {own : String} {index : Nat} {y : MethodName} (hy1 : y.name = "<init>") {bytes : ByteArray} {maxL : Nat} (hown : s.vm.findClass own = some m.cls)
    (w1 : (Jvm.Cond.methodLink own index y).before a0 Z = true) (w2 : (Jvm.Cond.instanceMethod y).before a0 Z = true) (w4 : (Jvm.Cond.code y bytes maxL none).before a0 Z = true) (w3 : (Jvm.Cond.initialized y.cls).before a0 Z = true) (hy : y.cls ≠ "java/lang/invoke/MethodHandle" ∧ y.cls ≠ "java/lang/invoke/VarHandle")
    (eT : T.heap = h) {rf rl : Nat} {W : Nat} {a : Addr} {argsL rest : List Value} (K : own_Con l Z [] y bytes maxL none { frames := rf, cells := 0, slots := 0, locals := rl } (.ref a :: argsL).toArray h (own_Q1 none h)) (hf : rf + 1 ≤ R.frames) (hl : W + (maxL + 11) + rl ≤ R.locals)
    {g : JFrame} (hg : g.method = m) (hsize : g.locals.size = c.maxLocals) (hlen : ∀ sig, parseMethodDescriptor y.desc = some sig → argsL.length = sig.parameters.length)
    (hstack : g.stack = argsL.reverse ++ .ref a :: rest) (hW : 2 * g.monitorRoom + (rest.map fun v => v.category).sum ≤ W) (hdg : decode c.code g.pc = .ok (.invokespecial index, 3)) (hc : cells ≤ R.cells) (hs : slots ≤ R.slots) :
    ∃ T' : State, Stand p l e R s m args below meth c T' locs cells slots ∧ T'.heap = h ∧
      ∀ target, Steps p.tables e below (T'.setTop { g with pc := g.pc + 3, stack := rest }) target → Steps p.tables e below (T.setTop g) target := by
  obtain ⟨v, T', L, X', ⟨rfl, hh, rfl⟩, st⟩ := own_callI X hx hZ hy1 hown w1 w2 w4 w3 hy eT (W := W) K hf hl hg hsize hlen hstack hW hdg hc hs
  rw [List.append_nil] at X'
  exact ⟨T', X', hh, st⟩
theorem own_callV (X : Stand p l e R s m args below meth c T locs cells slots) (hx : p.tables.exec = Jvm.exec) (hZ : Z.Warmed39 s.vm) {own C : String} {index : Nat} {y z : MethodName} {bytes : ByteArray} {maxL : Nat} {rt : Option FieldType} (hown : s.vm.findClass own = some m.cls)
    (w1 : (Jvm.Cond.methodLink own index y).before a0 Z = true) (w2 : (Jvm.Cond.declares y).before a0 Z = true) (hnf : NotFace s y) (ws : (Jvm.Cond.selects C y z).before a0 Z = true) (wi : (Jvm.Cond.instanceMethod z).before a0 Z = true) (hy : y.cls ≠ "java/lang/invoke/MethodHandle" ∧ y.cls ≠ "java/lang/invoke/VarHandle")
    (eT : T.heap = h) {b : Addr} (E : Exa Z h b C) {rm : Room} {W : Nat} {argsL rest : List Value} (K : own_Con l Z [] z bytes maxL rt rm (.ref b :: argsL).toArray h Q) (w4 : (Jvm.Cond.code z bytes maxL rt).before a0 Z = true) (w3 : (Jvm.Cond.initialized z.cls).before a0 Z = true) (hf : rm.frames + 1 ≤ R.frames) (hl : W + (maxL + 11) + rm.locals ≤ R.locals)
    {g : JFrame} (hg : g.method = m) (hsize : g.locals.size = c.maxLocals) (hlen : ∀ sig, parseMethodDescriptor y.desc = some sig → argsL.length = sig.parameters.length)
    (hstack : g.stack = argsL.reverse ++ .ref b :: rest) (hW : 2 * g.monitorRoom + (rest.map fun v => v.category).sum ≤ W) (hdg : decode c.code g.pc = .ok (.invokevirtual index, 3)) (hc : cells + rm.cells ≤ R.cells) (hs : slots + rm.slots ≤ R.slots) :
    ∃ (v : Option Value) (T' : State) (L : List Loc), Stand p l e R s m args below meth c T' (locs ++ L) (cells + rm.cells) (slots + rm.slots) ∧ Q v T'.heap L ∧
      ∀ target, Steps p.tables e below (T'.setTop { g with pc := g.pc + 3, stack := v.toList ++ rest }) target → Steps p.tables e below (T.setTop g) target := by
  obtain ⟨cq, kq, qa, qb, qc⟩ := isOf hZ eT E
  obtain ⟨v, _, ⟨T', L', k', n'⟩, -, X', ⟨L, hQ, q1, q2, q3⟩, st⟩ := X.virtualBack hx hown (mvT hZ w1) (mvT hZ w2) hnf (mvT hZ ws) (mvT hZ wi) hy (backOf (W := W) K hZ w4 w3 hf hl) qa qc hg hsize (Steps.refl _) hlen hstack hW hdg (fun _ _ => ⟨rfl, eT, hc, hs⟩)
  dsimp only [Pt.U, Pt.locs, Pt.cells, Pt.slots] at X' q1 q2 q3 st hQ
  subst q1 q2 q3
  exact ⟨v, T', L, X', hQ, fun t k => st.trans k⟩
theorem own_callVP (X : Stand p l e R s m args below meth c T locs cells slots) (hx : p.tables.exec = Jvm.exec) (hZ : Z.Warmed39 s.vm) {own C : String} {index : Nat} {y z : MethodName} {bytes : ByteArray} {maxL : Nat} {rt : Option FieldType} (hown : s.vm.findClass own = some m.cls)
    (w1 : (Jvm.Cond.methodLink own index y).before a0 Z = true) (w2 : (Jvm.Cond.declares y).before a0 Z = true) (hnf : NotFace s y) (ws : (Jvm.Cond.selects C y z).before a0 Z = true) (wi : (Jvm.Cond.instanceMethod z).before a0 Z = true) (hy : y.cls ≠ "java/lang/invoke/MethodHandle" ∧ y.cls ≠ "java/lang/invoke/VarHandle")
    (eT : T.heap = h) {b : Addr} (E : Exa Z h b C) {rf rl : Nat} {W : Nat} {argsL rest : List Value} {r : Value} (K : own_Con l Z [] z bytes maxL rt { frames := rf, cells := 0, slots := 0, locals := rl } (.ref b :: argsL).toArray h (own_Q1 (some r) h)) (w4 : (Jvm.Cond.code z bytes maxL rt).before a0 Z = true) (w3 : (Jvm.Cond.initialized z.cls).before a0 Z = true) (hf : rf + 1 ≤ R.frames) (hl : W + (maxL + 11) + rl ≤ R.locals)
    {g : JFrame} (hg : g.method = m) (hsize : g.locals.size = c.maxLocals) (hlen : ∀ sig, parseMethodDescriptor y.desc = some sig → argsL.length = sig.parameters.length)
    (hstack : g.stack = argsL.reverse ++ .ref b :: rest) (hW : 2 * g.monitorRoom + (rest.map fun v => v.category).sum ≤ W) (hdg : decode c.code g.pc = .ok (.invokevirtual index, 3)) (hc : cells ≤ R.cells) (hs : slots ≤ R.slots) :
    ∃ T' : State, Stand p l e R s m args below meth c T' locs cells slots ∧ T'.heap = h ∧
      ∀ target, Steps p.tables e below (T'.setTop { g with pc := g.pc + 3, stack := r :: rest }) target → Steps p.tables e below (T.setTop g) target := by
  obtain ⟨v, T', L, X', ⟨rfl, hh, rfl⟩, st⟩ := own_callV X hx hZ hown w1 w2 hnf ws wi hy eT E (W := W) K w4 w3 hf hl hg hsize hlen hstack hW hdg hc hs
  rw [List.append_nil] at X'
  exact ⟨T', X', hh, st⟩
theorem own_cl_eq {x y : Int64} (h : x = y) : Jvm.Free.XT.cmpL x y = 0 := by
  subst h; unfold Jvm.Free.XT.cmpL
  rw [if_neg (by rw [Int64.lt_iff_toInt_lt]; omega), if_pos rfl]
theorem own_cl_eq_n {x y : Int64} (h : ¬ x = y) : ¬ Jvm.Free.XT.cmpL x y = 0 := by
  unfold Jvm.Free.XT.cmpL
  by_cases h1 : y < x
  · rw [if_pos h1]; decide
  · rw [if_neg h1, if_neg h]; decide
theorem own_cl_gt {x y : Int64} (h : y < x) : (0 : Int32) < Jvm.Free.XT.cmpL x y := by
  unfold Jvm.Free.XT.cmpL; rw [if_pos h]; decide
theorem own_cl_gt_n {x y : Int64} (h : ¬ y < x) : ¬ (0 : Int32) < Jvm.Free.XT.cmpL x y := by
  unfold Jvm.Free.XT.cmpL; rw [if_neg h]
  by_cases h1 : x = y
  · rw [if_pos h1]; decide
  · rw [if_neg h1]; decide
theorem own_cl_lt {x y : Int64} (h : x < y) : Jvm.Free.XT.cmpL x y < (0 : Int32) := by
  unfold Jvm.Free.XT.cmpL
  rw [if_neg (by rw [Int64.lt_iff_toInt_lt] at h ⊢; omega), if_neg (by intro q; subst q; rw [Int64.lt_iff_toInt_lt] at h; omega)]; decide
theorem own_cl_lt_n {x y : Int64} (h : ¬ x < y) : ¬ Jvm.Free.XT.cmpL x y < (0 : Int32) := by
  unfold Jvm.Free.XT.cmpL
  by_cases h1 : y < x
  · rw [if_pos h1]; decide
  · rw [if_neg h1]
    have h2 : x = y := by
      rw [Int64.lt_iff_toInt_lt] at h h1
      exact Int64.toInt_inj.mp (by omega)
    rw [if_pos h2]; decide
theorem own_eq_int {a : Array Value} {s : State} {t : Term} {k : Int32} (h : (Jvm.Cond.eq t (Term.int k)).value a s none s [] = some true) : t.eval a s none [] s = some (.int k) := by
  obtain ⟨x, y, hx, hy, k1, k2⟩ := cmp_v (Or.inl h)
  obtain rfl : y = .int k := Option.some.inj (hy.symm.trans (Term.int_eval k))
  obtain ⟨z, rfl⟩ := k2
  rw [hx, gotT (Cond.eq_ints hx hy) h]
end Own
section OwnArr
variable {p : Program} {l : Launch} {e : Env} {R : Room} {s : State} {m : MethodId} {args : Array Value} {below : List Frame} {meth : Method} {c : Code} {T : State} {locs : List Loc} {cells slots : Nat}
variable {Z : State} {a0 : Array Value} {h h' : Heap} {a b : Addr} {ty : FieldType} {n k : Nat} {f f' : Nat → Value} {v : Value} {sl : Nat} {j x : Int32} {ws : List Addr}
/-- an array of n components, the i-th of which is f i -/
def own_Ar (Z : State) (h : Heap) (a : Addr) (ty : FieldType) (n : Nat) (f : Nat → Value) : Prop := n < 2 ^ 31 ∧ ∃ cl : Cell, Arr Z h a cl ty ∧ cl.slots.size = n ∧ ∀ i, i < n → cl.slots[i]? = some (f i)
def own_up (f : Nat → Value) (k : Nat) (v : Value) : Nat → Value := fun i => if i = k then v else f i
theorem own_Ar.lt (F : own_Ar Z h a ty n f) : a < h.size := by obtain ⟨_, c, A, -⟩ := F; exact A.lt
theorem own_Ar.ext (F : own_Ar Z h a ty n f) (E : Ext h h') : own_Ar Z h' a ty n f := by obtain ⟨q, c, A, r⟩ := F; exact ⟨q, c, A.ext E, r⟩
theorem own_Ar.other (F : own_Ar Z h b ty n f) (W : Wr h h' a sl v) (q : b ≠ a) : own_Ar Z h' b ty n f := by obtain ⟨q', c, A, r⟩ := F; exact ⟨q', c, A.other W q, r⟩
theorem own_Ar.keep (F : own_Ar Z h a ty n f) (K : Keep h h' ws) (q : a ∉ ws) : own_Ar Z h' a ty n f := by obtain ⟨q', c, A, r⟩ := F; exact ⟨q', c, ⟨K.2.1 a c A.1 q, A.2⟩, r⟩
theorem own_Ar.congr (F : own_Ar Z h a ty n f) (q : ∀ i, i < n → f i = f' i) : own_Ar Z h a ty n f' := by obtain ⟨q', c, A, r, H⟩ := F; exact ⟨q', c, A, r, fun i hi => by rw [← q i hi]; exact H i hi⟩
theorem own_in (hj : j.toInt = (k : Int)) (hk : k < n) : ¬ (j < 0 ∨ n ≤ j.toNatClampNeg) ∧ j.toNatClampNeg = k := by
  have h1 : ¬ j < 0 := by rw [Int32.lt_iff_toInt_lt, show (0 : Int32).toInt = 0 from rfl]; omega
  have h2 := nat_of h1
  refine ⟨fun q => ?_, by omega⟩
  rcases q with q | q
  · exact h1 q
  · omega
theorem own_Ar.set (F : own_Ar Z h a ty n f) (W : Wr h h' a k v) (hk : k < n) : own_Ar Z h' a ty n (own_up f k v) := by
  obtain ⟨q, c, A, r, H⟩ := F
  obtain ⟨c', g1, g2, g3, g4, -, g6, g7⟩ := wr_at W A.1
  obtain ⟨g8, g9, -⟩ := g7 rfl
  refine ⟨q, c', ?_, by rw [g4, r], fun i hi => ?_⟩
  · rw [g8]; exact A.same W
  · unfold own_up
    by_cases hik : i = k
    · subst hik; rw [if_pos rfl]; exact g9
    · rw [if_neg hik, g6 i hik]; exact H i hi
theorem own_newP (X : Stand p l e R s m args below meth c T locs cells slots) (hx : p.tables.exec = Jvm.exec) (hZ : Z.Warmed39 s.vm) {aty : ArrayType} (w : (Jvm.Cond.arrayClass (newarray.typeOf aty)).before a0 Z = true) (eT : T.heap = h) {g : JFrame} (hg : g.method = m) (hd : decode c.code g.pc = .ok (.newarray aty, 2)) {rest : List Value} (hs : g.stack = .int j :: rest)
    (hj : j.toInt = (k : Int)) {cap : Nat} (hcap : k ≤ cap) (hb : cap * 8 ≤ 536870912) (hc : cells + 1 ≤ R.cells) (hl : slots + cap ≤ R.slots) :
    ∃ T' h', Stand p l e R s m args below meth c T' locs (cells + 1) (slots + cap) ∧ T'.heap = h' ∧ Ext h h' ∧ own_Ar Z h' h.size (newarray.typeOf aty) k (fun _ => defaultValue (newarray.typeOf aty)) ∧
      ∀ target, Steps p.tables e below (T'.setTop { g with pc := g.pc + 2, stack := .ref h.size :: rest }) target → Steps p.tables e below (T.setTop g) target := by
  have h1 : ¬ j < 0 := by rw [Int32.lt_iff_toInt_lt, show (0 : Int32).toInt = 0 from rfl]; omega
  have h2 : j.toNatClampNeg = k := by have := nat_of h1; omega
  obtain ⟨T', h', cA, X', e', E', A', st⟩ := newP X hx hZ w eT hg hd hs h1 (cap := cap) (by omega) hb hc hl
  refine ⟨T', h', X', e', E', ⟨by have := j.toInt_lt; omega, _, A', by rw [sz_new]; exact h2, fun i hi => ?_⟩, st⟩
  simp only [newA, h2, Array.getElem?_replicate, hi, if_true]
theorem own_stB (X : Stand p l e R s m args below meth c T locs cells slots) (hx : p.tables.exec = Jvm.exec) (hZ : Z.Warmed39 s.vm) (eT : T.heap = h) (A : own_Ar Z h a .byte n f) (hj : j.toInt = (k : Int)) (hk : k < n) {g : JFrame} (hg : g.method = m) {rest : List Value} (hs : g.stack = .int x :: .int j :: .ref a :: rest) (hd : decode c.code g.pc = .ok (.bastore, 1)) :
    ∃ T' h', Stand p l e R s m args below meth c T' (locs ++ [⟨a, k⟩]) cells slots ∧ T'.heap = h' ∧ Wr h h' a k (.int x.toInt8.toInt32) ∧ ∀ target, Steps p.tables e below (T'.setTop { g with pc := g.pc + 1, stack := rest }) target → Steps p.tables e below (T.setTop g) target := by
  obtain ⟨_, cl, Ar, q, _⟩ := A
  obtain ⟨T', h', X', e', W, st⟩ := stB X hx hZ eT Ar (j := j) (x := x) (by rw [q]; exact (own_in hj hk).1) hg hs hd
  rw [(own_in hj hk).2] at X' W
  exact ⟨T', h', X', e', W, st⟩
theorem own_stI (X : Stand p l e R s m args below meth c T locs cells slots) (hx : p.tables.exec = Jvm.exec) (hZ : Z.Warmed39 s.vm) (eT : T.heap = h) (A : own_Ar Z h a .int n f) (hj : j.toInt = (k : Int)) (hk : k < n) {g : JFrame} (hg : g.method = m) {rest : List Value} (hs : g.stack = .int x :: .int j :: .ref a :: rest) (hd : decode c.code g.pc = .ok (.iastore, 1)) :
    ∃ T' h', Stand p l e R s m args below meth c T' (locs ++ [⟨a, k⟩]) cells slots ∧ T'.heap = h' ∧ Wr h h' a k (.int x) ∧ ∀ target, Steps p.tables e below (T'.setTop { g with pc := g.pc + 1, stack := rest }) target → Steps p.tables e below (T.setTop g) target := by
  obtain ⟨_, cl, Ar, q, _⟩ := A
  obtain ⟨T', h', X', e', W, st⟩ := stI X hx hZ eT Ar (j := j) (x := x) (by rw [q]; exact (own_in hj hk).1) hg hs hd
  rw [(own_in hj hk).2] at X' W
  exact ⟨T', h', X', e', W, st⟩
theorem own_stJ {y : Int64} (X : Stand p l e R s m args below meth c T locs cells slots) (hx : p.tables.exec = Jvm.exec) (hZ : Z.Warmed39 s.vm) (eT : T.heap = h) (A : own_Ar Z h a .long n f) (hj : j.toInt = (k : Int)) (hk : k < n) {g : JFrame} (hg : g.method = m) {rest : List Value} (hs : g.stack = .long y :: .int j :: .ref a :: rest) (hd : decode c.code g.pc = .ok (.lastore, 1)) :
    ∃ T' h', Stand p l e R s m args below meth c T' (locs ++ [⟨a, k⟩]) cells slots ∧ T'.heap = h' ∧ Wr h h' a k (.long y) ∧ ∀ target, Steps p.tables e below (T'.setTop { g with pc := g.pc + 1, stack := rest }) target → Steps p.tables e below (T.setTop g) target := by
  obtain ⟨_, cl, Ar, q, _⟩ := A
  obtain ⟨T', h', X', e', W, st⟩ := stJ X hx hZ eT Ar (j := j) (x := y) (by rw [q]; exact (own_in hj hk).1) hg hs hd
  rw [(own_in hj hk).2] at X' W
  exact ⟨T', h', X', e', W, st⟩
theorem own_stC (X : Stand p l e R s m args below meth c T locs cells slots) (hx : p.tables.exec = Jvm.exec) (hZ : Z.Warmed39 s.vm) (eT : T.heap = h) (A : own_Ar Z h a .char n f) (hj : j.toInt = (k : Int)) (hk : k < n) {g : JFrame} (hg : g.method = m) {rest : List Value} (hs : g.stack = .int x :: .int j :: .ref a :: rest) (hd : decode c.code g.pc = .ok (.castore, 1)) :
    ∃ T' h', Stand p l e R s m args below meth c T' (locs ++ [⟨a, k⟩]) cells slots ∧ T'.heap = h' ∧ Wr h h' a k (.int x.toUInt32.toUInt16.toUInt32.toInt32) ∧ ∀ target, Steps p.tables e below (T'.setTop { g with pc := g.pc + 1, stack := rest }) target → Steps p.tables e below (T.setTop g) target := by
  obtain ⟨_, cl, Ar, q, _⟩ := A
  obtain ⟨T', h', X', e', W, st⟩ := stC X hx hZ eT Ar (j := j) (x := x) (by rw [q]; exact (own_in hj hk).1) hg hs hd
  rw [(own_in hj hk).2] at X' W
  exact ⟨T', h', X', e', W, st⟩
theorem own_ldI (X : Stand p l e R s m args below meth c T locs cells slots) (hx : p.tables.exec = Jvm.exec) (hZ : Z.Warmed39 s.vm) (eT : T.heap = h) (A : own_Ar Z h a .int n f) (hj : j.toInt = (k : Int)) (hk : k < n) (hv : f k = v) {g : JFrame} (hg : g.method = m) {rest : List Value} (hs : g.stack = .int j :: .ref a :: rest) (hd : decode c.code g.pc = .ok (.iaload, 1)) (target : State)
    (kt : Steps p.tables e below (T.setTop { g with pc := g.pc + 1, stack := v :: rest }) target) : Steps p.tables e below (T.setTop g) target := by
  obtain ⟨_, cl, Ar, q, H⟩ := A
  exact X.iaload hx (by rw [eT]; exact Ar.1) (State.isArrayOf_alike hZ.alike Ar.2.1) Ar.2.2 (by rw [q]; exact (own_in hj hk).1) (by rw [(own_in hj hk).2, ← hv]; exact H k hk) hg hs hd target kt
theorem own_ldJ (X : Stand p l e R s m args below meth c T locs cells slots) (hx : p.tables.exec = Jvm.exec) (hZ : Z.Warmed39 s.vm) (eT : T.heap = h) (A : own_Ar Z h a .long n f) (hj : j.toInt = (k : Int)) (hk : k < n) (hv : f k = v) {g : JFrame} (hg : g.method = m) {rest : List Value} (hs : g.stack = .int j :: .ref a :: rest) (hd : decode c.code g.pc = .ok (.laload, 1)) (target : State)
    (kt : Steps p.tables e below (T.setTop { g with pc := g.pc + 1, stack := v :: rest }) target) : Steps p.tables e below (T.setTop g) target := by
  obtain ⟨_, cl, Ar, q, H⟩ := A
  exact X.laload hx (by rw [eT]; exact Ar.1) (State.isArrayOf_alike hZ.alike Ar.2.1) Ar.2.2 (by rw [q]; exact (own_in hj hk).1) (by rw [(own_in hj hk).2, ← hv]; exact H k hk) hg hs hd target kt
theorem own_ldB (X : Stand p l e R s m args below meth c T locs cells slots) (hx : p.tables.exec = Jvm.exec) (hZ : Z.Warmed39 s.vm) (eT : T.heap = h) (A : own_Ar Z h a .byte n f) (hj : j.toInt = (k : Int)) (hk : k < n) (hv : f k = v) {g : JFrame} (hg : g.method = m) {rest : List Value} (hs : g.stack = .int j :: .ref a :: rest) (hd : decode c.code g.pc = .ok (.baload, 1)) (target : State)
    (kt : Steps p.tables e below (T.setTop { g with pc := g.pc + 1, stack := v :: rest }) target) : Steps p.tables e below (T.setTop g) target := by
  obtain ⟨_, cl, Ar, q, H⟩ := A
  exact X.baloadBytes hx (by rw [eT]; exact Ar.1) (State.isArrayOf_alike hZ.alike Ar.2.1) Ar.2.2 (by rw [q]; exact (own_in hj hk).1) (by rw [(own_in hj hk).2, ← hv]; exact H k hk) hg hs hd target kt
theorem own_ldC (X : Stand p l e R s m args below meth c T locs cells slots) (hx : p.tables.exec = Jvm.exec) (hZ : Z.Warmed39 s.vm) (eT : T.heap = h) (A : own_Ar Z h a .char n f) (hj : j.toInt = (k : Int)) (hk : k < n) (hv : f k = v) {g : JFrame} (hg : g.method = m) {rest : List Value} (hs : g.stack = .int j :: .ref a :: rest) (hd : decode c.code g.pc = .ok (.caload, 1)) (target : State)
    (kt : Steps p.tables e below (T.setTop { g with pc := g.pc + 1, stack := v :: rest }) target) : Steps p.tables e below (T.setTop g) target := by
  obtain ⟨_, cl, Ar, q, H⟩ := A
  exact X.caload hx (by rw [eT]; exact Ar.1) (State.isArrayOf_alike hZ.alike Ar.2.1) Ar.2.2 (by rw [q]; exact (own_in hj hk).1) (by rw [(own_in hj hk).2, ← hv]; exact H k hk) hg hs hd target kt
theorem own_len (X : Stand p l e R s m args below meth c T locs cells slots) (hx : p.tables.exec = Jvm.exec) (hZ : Z.Warmed39 s.vm) (eT : T.heap = h) (A : own_Ar Z h a ty n f) {g : JFrame} (hg : g.method = m) {rest : List Value} (hs : g.stack = .ref a :: rest) (hd : decode c.code g.pc = .ok (.arraylength, 1)) (target : State)
    (kt : Steps p.tables e below (T.setTop { g with pc := g.pc + 1, stack := .int n.toInt32 :: rest }) target) : Steps p.tables e below (T.setTop g) target := by
  obtain ⟨_, cl, Ar, q, H⟩ := A
  exact X.arraylength hx (by rw [eT]; exact Ar.1) (State.isArrayOf_alike hZ.alike Ar.2.1) hg hs hd target (by rw [q]; exact kt)
end OwnArr


def own_p (x : Int32) : Int32 := (x &&& (2147483647 : Int32)) % (11280 : Int32)
def own_at (x : Int32) : Int32 := x &&& (3 : Int32)
def own_fill (x : Int32) : Int32 := x.toInt8.toInt32
def own_lead (p1 : Int32) : Int32 := ((p1 / (188 : Int32)) + (if (p1 / (188 : Int32)) < (31 : Int32) then (129 : Int32) else (193 : Int32))).toInt8.toInt32.toInt8.toInt32
def own_trail (p1 : Int32) : Int32 := ((p1 % (188 : Int32)) + (if (p1 % (188 : Int32)) < (63 : Int32) then (64 : Int32) else (65 : Int32))).toInt8.toInt32.toInt8.toInt32
def own_ld (x : Int32) : Int32 := own_lead (own_p x) &&& (255 : Int32)
def own_tr (x : Int32) : Int32 := own_trail (own_p x) &&& (255 : Int32)
def own_g (w : Int32) (k : Nat) (q : Int32) : Nat → Value := own_up (own_up (fun _ => .int w) k (.int (own_lead q))) (k + 1) (.int (own_trail q))
theorem own_g_1 {w : Int32} {k : Nat} {q : Int32} : own_g w k q k = .int (own_lead q) := by simp [own_g, own_up]
theorem own_g_2 {w : Int32} {k : Nat} {q : Int32} : own_g w k q (k + 1) = .int (own_trail q) := by simp [own_g, own_up]
theorem own_g_else {w : Int32} {k : Nat} {q : Int32} {i : Nat} (h1 : i ≠ k) (h2 : i ≠ k + 1) : own_g w k q i = .int w := by simp [own_g, own_up, h1, h2]
theorem own_add1 {j : Int32} {k : Nat} (hj : j.toInt = (k : Int)) (hk : k < 1000000) : (j + (1 : Int32)).toInt = ((k + 1 : Nat) : Int) := by
  rw [Jvm.Kit.i32_add (by rw [hj, show (1 : Int32).toInt = 1 from rfl]; omega) (by rw [hj, show (1 : Int32).toInt = 1 from rfl]; omega), hj, show (1 : Int32).toInt = 1 from rfl]; omega
theorem own_ne1 {x y : Int32} {i k : Nat} (hi : x.toInt = (i : Int)) (hj : y.toInt = (k : Int)) (h : ¬ x = y) : i ≠ k := fun q => h (Int32.toInt_inj.mp (by rw [hi, hj, q]))
theorem own_ne2 {x y : Int32} {i k : Nat} (hi : x.toInt = (i : Int)) (hj : y.toInt = (k : Int)) (hk : k + 1 < 6) (h : ¬ x = y + (1 : Int32)) : i ≠ k + 1 := own_ne1 hi (own_add1 hj (by omega)) h
theorem own_at_nat (x : Int32) : ∃ k : Nat, (own_at x).toInt = (k : Int) ∧ k < 4 := by
  have h : (own_at x).toInt = x.toInt % 2 ^ 2 := Jvm.Kit.i32_mask x 3 (k := 2) (by decide) (by decide)
  exact ⟨(own_at x).toInt.toNat, by omega, by omega⟩
theorem own_byte_int (x : Int32) : x.toInt8.toInt32.toInt = x.toInt.bmod 256 := by
  rw [Int8.toInt_toInt32, Int32.toInt_toInt8]
theorem own_byte_idem (x : Int32) : x.toInt8.toInt32.toInt8.toInt32 = x.toInt8.toInt32 := by
  apply Int32.toInt_inj.mp
  rw [own_byte_int, own_byte_int, Int.bmod_bmod]
theorem own_mask8 (x : Int32) : (x.toInt8.toInt32 &&& (255 : Int32)).toInt = x.toInt % 256 := by
  have h := Jvm.Kit.i32_mask x.toInt8.toInt32 255 (k := 8) (by decide) (by decide)
  rw [h, own_byte_int]
  have := Int.bmod_def x.toInt 256
  split at this <;> omega
theorem own_filled (w : Int32) (i : Nat) (hi : i < 6) : (own_up (own_up (own_up (own_up (own_up (own_up (fun _ => .int (0 : Int32)) 0 (.int (own_fill w).toInt8.toInt32)) 1 (.int (own_fill w).toInt8.toInt32)) 2 (.int (own_fill w).toInt8.toInt32)) 3 (.int (own_fill w).toInt8.toInt32)) 4 (.int (own_fill w).toInt8.toInt32)) 5 (.int (own_fill w).toInt8.toInt32)) i = (fun _ => Value.int (own_fill w)) i := by
  have e : (own_fill w).toInt8.toInt32 = own_fill w := own_byte_idem w
  rw [e]
  have : i = 0 ∨ i = 1 ∨ i = 2 ∨ i = 3 ∨ i = 4 ∨ i = 5 := by omega
  rcases this with rfl | rfl | rfl | rfl | rfl | rfl <;> simp [own_up]
theorem own_p_int (x : Int32) : 0 ≤ (own_p x).toInt ∧ (own_p x).toInt < 11280 := by
  have e1 : (x &&& (2147483647 : Int32)).toInt = x.toInt % 2 ^ 31 := Jvm.Kit.i32_mask x 2147483647 (k := 31) (by decide) (by decide)
  have e2 : (own_p x).toInt = (x &&& (2147483647 : Int32)).toInt % (11280 : Int32).toInt := Jvm.Kit.i32_rem_nonneg (by omega)
  rw [show (11280 : Int32).toInt = 11280 from rfl] at e2
  omega
theorem own_q_int (x : Int32) : (own_p x / (188 : Int32)).toInt = (own_p x).toInt / 188 := by
  have := own_p_int x
  rw [Jvm.Kit.i32_div (by rw [show (188 : Int32).toInt = 188 from rfl]; omega), show (188 : Int32).toInt = 188 from rfl, Int.tdiv_eq_ediv_of_nonneg (by omega)]
theorem own_r_int (x : Int32) : (own_p x % (188 : Int32)).toInt = (own_p x).toInt % 188 := by
  have := own_p_int x
  rw [Jvm.Kit.i32_rem_nonneg (by omega), show (188 : Int32).toInt = 188 from rfl]
theorem own_ld_int (x : Int32) : (own_ld x).toInt = (own_p x).toInt / 188 + (if (own_p x).toInt / 188 < 31 then 129 else 193) := by
  have hp := own_p_int x
  have hq := own_q_int x
  unfold own_ld own_lead
  rw [own_byte_idem, own_mask8]
  by_cases h : own_p x / (188 : Int32) < (31 : Int32)
  · have h' := h
    rw [Int32.lt_iff_toInt_lt, hq, show (31 : Int32).toInt = 31 from rfl] at h'
    rw [if_pos h, if_pos h', Jvm.Kit.i32_add (by rw [hq, show (129 : Int32).toInt = 129 from rfl]; omega) (by rw [hq, show (129 : Int32).toInt = 129 from rfl]; omega), hq, show (129 : Int32).toInt = 129 from rfl]; omega
  · have h' := h
    rw [Int32.lt_iff_toInt_lt, hq, show (31 : Int32).toInt = 31 from rfl] at h'
    rw [if_neg h, if_neg h', Jvm.Kit.i32_add (by rw [hq, show (193 : Int32).toInt = 193 from rfl]; omega) (by rw [hq, show (193 : Int32).toInt = 193 from rfl]; omega), hq, show (193 : Int32).toInt = 193 from rfl]; omega
theorem own_tr_int (x : Int32) : (own_tr x).toInt = (own_p x).toInt % 188 + (if (own_p x).toInt % 188 < 63 then 64 else 65) := by
  have hp := own_p_int x
  have hq := own_r_int x
  unfold own_tr own_trail
  rw [own_byte_idem, own_mask8]
  by_cases h : own_p x % (188 : Int32) < (63 : Int32)
  · have h' := h
    rw [Int32.lt_iff_toInt_lt, hq, show (63 : Int32).toInt = 63 from rfl] at h'
    rw [if_pos h, if_pos h', Jvm.Kit.i32_add (by rw [hq, show (64 : Int32).toInt = 64 from rfl]; omega) (by rw [hq, show (64 : Int32).toInt = 64 from rfl]; omega), hq, show (64 : Int32).toInt = 64 from rfl]; omega
  · have h' := h
    rw [Int32.lt_iff_toInt_lt, hq, show (63 : Int32).toInt = 63 from rfl] at h'
    rw [if_neg h, if_neg h', Jvm.Kit.i32_add (by rw [hq, show (65 : Int32).toInt = 65 from rfl]; omega) (by rw [hq, show (65 : Int32).toInt = 65 from rfl]; omega), hq, show (65 : Int32).toInt = 65 from rfl]; omega
theorem own_L1 (x : Int32) : ¬ own_ld x < (129 : Int32) := by
  have hp := own_p_int x; have h := own_ld_int x
  rw [Int32.lt_iff_toInt_lt, h, show (129 : Int32).toInt = 129 from rfl]; split <;> omega
theorem own_L2 (x : Int32) (q : (159 : Int32) < own_ld x) : ¬ own_ld x < (224 : Int32) := by
  have hp := own_p_int x; have h := own_ld_int x
  rw [Int32.lt_iff_toInt_lt, h, show (159 : Int32).toInt = 159 from rfl] at q
  rw [Int32.lt_iff_toInt_lt, h, show (224 : Int32).toInt = 224 from rfl]; split at q <;> simp_all <;> omega
theorem own_L3 (x : Int32) : ¬ (252 : Int32) < own_ld x := by
  have hp := own_p_int x; have h := own_ld_int x
  rw [Int32.lt_iff_toInt_lt, h, show (252 : Int32).toInt = 252 from rfl]; split <;> omega
theorem own_T1 (x : Int32) : ¬ own_tr x < (64 : Int32) := by
  have hp := own_p_int x; have h := own_tr_int x
  rw [Int32.lt_iff_toInt_lt, h, show (64 : Int32).toInt = 64 from rfl]; split <;> omega
theorem own_T2 (x : Int32) (q : (126 : Int32) < own_tr x) : ¬ own_tr x < (128 : Int32) := by
  have hp := own_p_int x; have h := own_tr_int x
  rw [Int32.lt_iff_toInt_lt, h, show (126 : Int32).toInt = 126 from rfl] at q
  rw [Int32.lt_iff_toInt_lt, h, show (128 : Int32).toInt = 128 from rfl]; split at q <;> simp_all <;> omega
theorem own_T3 (x : Int32) : ¬ (252 : Int32) < own_tr x := by
  have hp := own_p_int x; have h := own_tr_int x
  rw [Int32.lt_iff_toInt_lt, h, show (252 : Int32).toInt = 252 from rfl]; split <;> omega
theorem own_back (x : Int32) : (((own_ld x - (if own_ld x < (160 : Int32) then (129 : Int32) else (193 : Int32))) * (188 : Int32)) + own_tr x) - (if own_tr x < (127 : Int32) then (64 : Int32) else (65 : Int32)) = own_p x := by
  have hp := own_p_int x; have h1 := own_ld_int x; have h2 := own_tr_int x
  have a1 : (own_ld x - (if own_ld x < (160 : Int32) then (129 : Int32) else (193 : Int32))).toInt = (own_p x).toInt / 188 := by
    by_cases h : own_ld x < (160 : Int32)
    · have h' := h
      rw [Int32.lt_iff_toInt_lt, h1, show (160 : Int32).toInt = 160 from rfl] at h'
      rw [if_pos h, Jvm.Kit.i32_sub (by rw [h1, show (129 : Int32).toInt = 129 from rfl]; split <;> omega) (by rw [h1, show (129 : Int32).toInt = 129 from rfl]; split <;> omega), h1, show (129 : Int32).toInt = 129 from rfl]
      split at h' <;> simp_all <;> omega
    · have h' := h
      rw [Int32.lt_iff_toInt_lt, h1, show (160 : Int32).toInt = 160 from rfl] at h'
      rw [if_neg h, Jvm.Kit.i32_sub (by rw [h1, show (193 : Int32).toInt = 193 from rfl]; split <;> omega) (by rw [h1, show (193 : Int32).toInt = 193 from rfl]; split <;> omega), h1, show (193 : Int32).toInt = 193 from rfl]
      split at h' <;> simp_all <;> omega
  have a2 : ((own_ld x - (if own_ld x < (160 : Int32) then (129 : Int32) else (193 : Int32))) * (188 : Int32)).toInt = (own_p x).toInt / 188 * 188 := by
    rw [Jvm.Kit.i32_mul (by rw [a1, show (188 : Int32).toInt = 188 from rfl]; omega) (by rw [a1, show (188 : Int32).toInt = 188 from rfl]; omega), a1, show (188 : Int32).toInt = 188 from rfl]
  generalize (own_ld x - (if own_ld x < (160 : Int32) then (129 : Int32) else (193 : Int32))) * (188 : Int32) = A at a2
  have a3 : (A + own_tr x).toInt = (own_p x).toInt / 188 * 188 + (own_tr x).toInt := by
    rw [Jvm.Kit.i32_add (by rw [a2, h2]; split <;> omega) (by rw [a2, h2]; split <;> omega), a2]
  apply Int32.toInt_inj.mp
  by_cases h : own_tr x < (127 : Int32)
  · have h' := h
    rw [Int32.lt_iff_toInt_lt, h2, show (127 : Int32).toInt = 127 from rfl] at h'
    rw [if_pos h, Jvm.Kit.i32_sub (by rw [a3, h2, show (64 : Int32).toInt = 64 from rfl]; split <;> omega) (by rw [a3, h2, show (64 : Int32).toInt = 64 from rfl]; split <;> omega), a3, h2, show (64 : Int32).toInt = 64 from rfl]
    split at h' <;> simp_all <;> omega
  · have h' := h
    rw [Int32.lt_iff_toInt_lt, h2, show (127 : Int32).toInt = 127 from rfl] at h'
    rw [if_neg h, Jvm.Kit.i32_sub (by rw [a3, h2, show (65 : Int32).toInt = 65 from rfl]; split <;> omega) (by rw [a3, h2, show (65 : Int32).toInt = 65 from rfl]; split <;> omega), a3, h2, show (65 : Int32).toInt = 65 from rfl]
    split at h' <;> simp_all <;> omega

theorem own_d1_0 : decode prog_31_method_4_code 0 = .ok (.iload_n 0, 1) := by decide +kernel
theorem own_d1_1 : decode prog_31_method_4_code 1 = .ok (.sipush 188, 3) := by decide +kernel
theorem own_d1_4 : decode prog_31_method_4_code 4 = .ok (.idiv, 1) := by decide +kernel
theorem own_d1_5 : decode prog_31_method_4_code 5 = .ok (.istore_n 3, 1) := by decide +kernel
theorem own_d1_6 : decode prog_31_method_4_code 6 = .ok (.iload_n 0, 1) := by decide +kernel
theorem own_d1_7 : decode prog_31_method_4_code 7 = .ok (.sipush 188, 3) := by decide +kernel
theorem own_d1_10 : decode prog_31_method_4_code 10 = .ok (.irem, 1) := by decide +kernel
theorem own_d1_11 : decode prog_31_method_4_code 11 = .ok (.istore 4, 2) := by decide +kernel
theorem own_d1_13 : decode prog_31_method_4_code 13 = .ok (.aload_n 1, 1) := by decide +kernel
theorem own_d1_14 : decode prog_31_method_4_code 14 = .ok (.iload_n 2, 1) := by decide +kernel
theorem own_d1_15 : decode prog_31_method_4_code 15 = .ok (.iload_n 3, 1) := by decide +kernel
theorem own_d1_16 : decode prog_31_method_4_code 16 = .ok (.iload_n 3, 1) := by decide +kernel
theorem own_d1_17 : decode prog_31_method_4_code 17 = .ok (.bipush 31, 2) := by decide +kernel
theorem own_d1_19 : decode prog_31_method_4_code 19 = .ok (.if_icmp .ge 9, 3) := by decide +kernel
theorem own_d1_22 : decode prog_31_method_4_code 22 = .ok (.sipush 129, 3) := by decide +kernel
theorem own_d1_25 : decode prog_31_method_4_code 25 = .ok (.goto 6, 3) := by decide +kernel
theorem own_d1_28 : decode prog_31_method_4_code 28 = .ok (.sipush 193, 3) := by decide +kernel
theorem own_d1_31 : decode prog_31_method_4_code 31 = .ok (.iadd, 1) := by decide +kernel
theorem own_d1_32 : decode prog_31_method_4_code 32 = .ok (.i2b, 1) := by decide +kernel
theorem own_d1_33 : decode prog_31_method_4_code 33 = .ok (.bastore, 1) := by decide +kernel
theorem own_d1_34 : decode prog_31_method_4_code 34 = .ok (.aload_n 1, 1) := by decide +kernel
theorem own_d1_35 : decode prog_31_method_4_code 35 = .ok (.iload_n 2, 1) := by decide +kernel
theorem own_d1_36 : decode prog_31_method_4_code 36 = .ok (.iconst 1, 1) := by decide +kernel
theorem own_d1_37 : decode prog_31_method_4_code 37 = .ok (.iadd, 1) := by decide +kernel
theorem own_d1_38 : decode prog_31_method_4_code 38 = .ok (.iload 4, 2) := by decide +kernel
theorem own_d1_40 : decode prog_31_method_4_code 40 = .ok (.iload 4, 2) := by decide +kernel
theorem own_d1_42 : decode prog_31_method_4_code 42 = .ok (.bipush 63, 2) := by decide +kernel
theorem own_d1_44 : decode prog_31_method_4_code 44 = .ok (.if_icmp .ge 8, 3) := by decide +kernel
theorem own_d1_47 : decode prog_31_method_4_code 47 = .ok (.bipush 64, 2) := by decide +kernel
theorem own_d1_49 : decode prog_31_method_4_code 49 = .ok (.goto 5, 3) := by decide +kernel
theorem own_d1_52 : decode prog_31_method_4_code 52 = .ok (.bipush 65, 2) := by decide +kernel
theorem own_d1_54 : decode prog_31_method_4_code 54 = .ok (.iadd, 1) := by decide +kernel
theorem own_d1_55 : decode prog_31_method_4_code 55 = .ok (.i2b, 1) := by decide +kernel
theorem own_d1_56 : decode prog_31_method_4_code 56 = .ok (.bastore, 1) := by decide +kernel
theorem own_d1_57 : decode prog_31_method_4_code 57 = .ok (.iconst 2, 1) := by decide +kernel
theorem own_d1_58 : decode prog_31_method_4_code 58 = .ok (.ireturn, 1) := by decide +kernel
theorem own_pn_ShiftJis : plainName "com/example/untwist_forms/untwistforms/internal/ShiftJis" = true := by first | (simp [plainName, overriddenIn]; done) | decide +kernel
theorem own_ef1 (m : MethodId) (x0 : Int32) (x1 : Addr) (x2 : Int32) : entryFrame m #[(.int x0), (.ref x1), (.int x2)] 5 = mkF m 0 #[.val (.int x0), .val (.ref x1), .val (.int x2), .unset, .unset] [] := by first | (simp [entryFrame, mkF, argsToLocals, Value.category, maxLocals]; done) | rfl
set_option maxRecDepth 65536 in
set_option maxHeartbeats 40000000 in
theorem own_rm_wp (l : Launch) (Z : State) (a0 : Array Value) (hw : ∀ d ∈ tables_1, d.before a0 Z = true) (p1 : Int32) (a1 : Addr) (p3 : Int32) (f : Nat → Value) (k : Nat) (h0 : Heap) (n0 : Nat) (Z0 : n0 ≤ h0.size) (A1 : own_Ar Z h0 a1 .byte 6 f) (g1 : n0 ≤ a1) (hj : p3.toInt = (k : Int)) (hk : k + 1 < 6) : own_Con l Z [] (⟨"com/example/untwist_forms/untwistforms/internal/ShiftJis", "writePointer", "(I[BI)I"⟩ : MethodName) prog_31_method_4_code 5 (some .int) ({ frames := 0, cells := 0, slots := 0, locals := 0 } : Room) #[(.int p1), (.ref a1), (.int p3)] h0 (fun v h L => v = some (.int (2 : Int32)) ∧ Fr n0 L ∧ Keep h0 h [a1] ∧ own_Ar Z h a1 .byte 6 (own_up (own_up f k (.int (own_lead p1))) (k + 1) (.int (own_trail p1)))) := by
  refine own_body (plainFor_of_name own_pn_ShiftJis) ?_
  intro p e s m below meth c s₁ X0 hx hby hml hret hlk hown hnm hZ e0
  have N0 := Fr.nil n0
  have K0 : Keep h0 h0 [a1] := Keep.refl _ _
  refine oS (u' := s₁.setTop (mkF m 0 #[.val (.int p1), .val (.ref a1), .val (.int p3), .unset, .unset] [])) (fun _ kst => castTop (own_ef1 m p1 a1 p3) kst) ?_
  refine oS (u' := s₁.setTop (mkF m 1 #[.val (.int p1), .val (.ref a1), .val (.int p3), .unset, .unset] [(.int p1)])) (fun _ kst => XS.iloadN X0.here hx rfl (hb hby own_d1_0) rfl kst) ?_
  refine oS (u' := s₁.setTop (mkF m 4 #[.val (.int p1), .val (.ref a1), .val (.int p3), .unset, .unset] [(.int (188 : Int32)), (.int p1)])) (fun _ kst => XS.sipush X0.here hx rfl (hb hby own_d1_1) kst) ?_
  refine oS (u' := s₁.setTop (mkF m 5 #[.val (.int p1), .val (.ref a1), .val (.int p3), .unset, .unset] [(.int (p1 / (188 : Int32)))])) (fun _ kst => XS.idiv X0.here hx rfl (hb hby own_d1_4) rfl (by decide) kst) ?_
  refine oS (u' := s₁.setTop (mkF m 6 #[.val (.int p1), .val (.ref a1), .val (.int p3), .val (.int (p1 / (188 : Int32))), .unset] [])) (fun _ kst => XS.istoreN X0.here hx rfl (hb hby own_d1_5) rfl (l' := #[.val (.int p1), .val (.ref a1), .val (.int p3), .val (.int (p1 / (188 : Int32))), .unset]) rfl kst) ?_
  refine oS (u' := s₁.setTop (mkF m 7 #[.val (.int p1), .val (.ref a1), .val (.int p3), .val (.int (p1 / (188 : Int32))), .unset] [(.int p1)])) (fun _ kst => XS.iloadN X0.here hx rfl (hb hby own_d1_6) rfl kst) ?_
  refine oS (u' := s₁.setTop (mkF m 10 #[.val (.int p1), .val (.ref a1), .val (.int p3), .val (.int (p1 / (188 : Int32))), .unset] [(.int (188 : Int32)), (.int p1)])) (fun _ kst => XS.sipush X0.here hx rfl (hb hby own_d1_7) kst) ?_
  refine oS (u' := s₁.setTop (mkF m 11 #[.val (.int p1), .val (.ref a1), .val (.int p3), .val (.int (p1 / (188 : Int32))), .unset] [(.int (p1 % (188 : Int32)))])) (fun _ kst => iremM X0 hx rfl (hb hby own_d1_10) rfl (by decide) kst) ?_
  refine oS (u' := s₁.setTop (mkF m 13 #[.val (.int p1), .val (.ref a1), .val (.int p3), .val (.int (p1 / (188 : Int32))), .val (.int (p1 % (188 : Int32)))] [])) (fun _ kst => XS.istore X0.here hx rfl (hb hby own_d1_11) rfl (l' := #[.val (.int p1), .val (.ref a1), .val (.int p3), .val (.int (p1 / (188 : Int32))), .val (.int (p1 % (188 : Int32)))]) rfl kst) ?_
  refine oS (u' := s₁.setTop (mkF m 14 #[.val (.int p1), .val (.ref a1), .val (.int p3), .val (.int (p1 / (188 : Int32))), .val (.int (p1 % (188 : Int32)))] [(.ref a1)])) (fun _ kst => XS.aloadN X0.here hx rfl (hb hby own_d1_13) rfl rfl kst) ?_
  refine oS (u' := s₁.setTop (mkF m 15 #[.val (.int p1), .val (.ref a1), .val (.int p3), .val (.int (p1 / (188 : Int32))), .val (.int (p1 % (188 : Int32)))] [(.int p3), (.ref a1)])) (fun _ kst => XS.iloadN X0.here hx rfl (hb hby own_d1_14) rfl kst) ?_
  refine oS (u' := s₁.setTop (mkF m 16 #[.val (.int p1), .val (.ref a1), .val (.int p3), .val (.int (p1 / (188 : Int32))), .val (.int (p1 % (188 : Int32)))] [(.int (p1 / (188 : Int32))), (.int p3), (.ref a1)])) (fun _ kst => XS.iloadN X0.here hx rfl (hb hby own_d1_15) rfl kst) ?_
  refine oS (u' := s₁.setTop (mkF m 17 #[.val (.int p1), .val (.ref a1), .val (.int p3), .val (.int (p1 / (188 : Int32))), .val (.int (p1 % (188 : Int32)))] [(.int (p1 / (188 : Int32))), (.int (p1 / (188 : Int32))), (.int p3), (.ref a1)])) (fun _ kst => XS.iloadN X0.here hx rfl (hb hby own_d1_16) rfl kst) ?_
  refine oS (u' := s₁.setTop (mkF m 19 #[.val (.int p1), .val (.ref a1), .val (.int p3), .val (.int (p1 / (188 : Int32))), .val (.int (p1 % (188 : Int32)))] [(.int (31 : Int32)), (.int (p1 / (188 : Int32))), (.int (p1 / (188 : Int32))), (.int p3), (.ref a1)])) (fun _ kst => XS.bipush X0.here hx rfl (hb hby own_d1_17) kst) ?_
  have km2 : ∀ t, Steps p.tables e below (s₁.setTop (mkF m 31 #[.val (.int p1), .val (.ref a1), .val (.int p3), .val (.int (p1 / (188 : Int32))), .val (.int (p1 % (188 : Int32)))] [(.int (if (p1 / (188 : Int32)) < (31 : Int32) then (129 : Int32) else (193 : Int32))), (.int (p1 / (188 : Int32))), (.int p3), (.ref a1)])) t → Steps p.tables e below (s₁.setTop (mkF m 19 #[.val (.int p1), .val (.ref a1), .val (.int p3), .val (.int (p1 / (188 : Int32))), .val (.int (p1 % (188 : Int32)))] [(.int (31 : Int32)), (.int (p1 / (188 : Int32))), (.int (p1 / (188 : Int32))), (.int p3), (.ref a1)])) t := by
    intro tgt kst
    by_cases hc1 : (p1 / (188 : Int32)) < (31 : Int32)
    · rw [show (if (p1 / (188 : Int32)) < (31 : Int32) then (129 : Int32) else (193 : Int32)) = (129 : Int32) from if_pos hc1] at kst
      refine XS.icmpNo X0.here hx rfl (hb hby own_d1_19) rfl (tlt hc1).2.1 ?_
      show Steps p.tables e below (s₁.setTop (mkF m 22 #[.val (.int p1), .val (.ref a1), .val (.int p3), .val (.int (p1 / (188 : Int32))), .val (.int (p1 % (188 : Int32)))] [(.int (p1 / (188 : Int32))), (.int p3), (.ref a1)])) _
      refine XS.sipush X0.here hx rfl (hb hby own_d1_22) ?_
      show Steps p.tables e below (s₁.setTop (mkF m 25 #[.val (.int p1), .val (.ref a1), .val (.int p3), .val (.int (p1 / (188 : Int32))), .val (.int (p1 % (188 : Int32)))] [(.int (129 : Int32)), (.int (p1 / (188 : Int32))), (.int p3), (.ref a1)])) _
      refine XS.goto X0.here hx rfl (pc0 := 25) (pc' := 31) rfl (hb hby own_d1_25) (by decide) (by decide) ?_
      show Steps p.tables e below (s₁.setTop (mkF m 31 #[.val (.int p1), .val (.ref a1), .val (.int p3), .val (.int (p1 / (188 : Int32))), .val (.int (p1 % (188 : Int32)))] [(.int (129 : Int32)), (.int (p1 / (188 : Int32))), (.int p3), (.ref a1)])) _
      exact kst
    · rw [show (if (p1 / (188 : Int32)) < (31 : Int32) then (129 : Int32) else (193 : Int32)) = (193 : Int32) from if_neg hc1] at kst
      refine XS.icmpYes X0.here hx rfl (pc0 := 19) (pc' := 28) rfl (hb hby own_d1_19) rfl (flt hc1).2.1 (by decide) (by decide) ?_
      show Steps p.tables e below (s₁.setTop (mkF m 28 #[.val (.int p1), .val (.ref a1), .val (.int p3), .val (.int (p1 / (188 : Int32))), .val (.int (p1 % (188 : Int32)))] [(.int (p1 / (188 : Int32))), (.int p3), (.ref a1)])) _
      refine XS.sipush X0.here hx rfl (hb hby own_d1_28) ?_
      show Steps p.tables e below (s₁.setTop (mkF m 31 #[.val (.int p1), .val (.ref a1), .val (.int p3), .val (.int (p1 / (188 : Int32))), .val (.int (p1 % (188 : Int32)))] [(.int (193 : Int32)), (.int (p1 / (188 : Int32))), (.int p3), (.ref a1)])) _
      exact kst
  refine oS (u' := s₁.setTop (mkF m 31 #[.val (.int p1), .val (.ref a1), .val (.int p3), .val (.int (p1 / (188 : Int32))), .val (.int (p1 % (188 : Int32)))] [(.int (if (p1 / (188 : Int32)) < (31 : Int32) then (129 : Int32) else (193 : Int32))), (.int (p1 / (188 : Int32))), (.int p3), (.ref a1)])) km2 ?_
  refine oS (u' := s₁.setTop (mkF m 32 #[.val (.int p1), .val (.ref a1), .val (.int p3), .val (.int (p1 / (188 : Int32))), .val (.int (p1 % (188 : Int32)))] [(.int ((p1 / (188 : Int32)) + (if (p1 / (188 : Int32)) < (31 : Int32) then (129 : Int32) else (193 : Int32)))), (.int p3), (.ref a1)])) (fun _ kst => XS.iadd X0.here hx rfl (hb hby own_d1_31) rfl kst) ?_
  refine oS (u' := s₁.setTop (mkF m 33 #[.val (.int p1), .val (.ref a1), .val (.int p3), .val (.int (p1 / (188 : Int32))), .val (.int (p1 % (188 : Int32)))] [(.int ((p1 / (188 : Int32)) + (if (p1 / (188 : Int32)) < (31 : Int32) then (129 : Int32) else (193 : Int32))).toInt8.toInt32), (.int p3), (.ref a1)])) (fun _ kst => XS.i2b X0.here hx rfl (hb hby own_d1_32) rfl kst) ?_
  obtain ⟨T3, h3, X3, e3, W3, st3⟩ := own_stB X0 hx hZ e0 A1 (k := k) hj (Nat.lt_of_succ_lt hk) (g := (mkF m 33 #[.val (.int p1), .val (.ref a1), .val (.int p3), .val (.int (p1 / (188 : Int32))), .val (.int (p1 % (188 : Int32)))] [(.int ((p1 / (188 : Int32)) + (if (p1 / (188 : Int32)) < (31 : Int32) then (129 : Int32) else (193 : Int32))).toInt8.toInt32), (.int p3), (.ref a1)])) rfl rfl (hb hby own_d1_33)
  have f3_A_a1 := A1.set W3 (Nat.lt_of_succ_lt hk)
  have K3 := K0.wr W3 (Or.inl (List.mem_of_getElem? (i := 0) rfl))
  have Z3 := Nat.le_trans Z0 (Keep.of_wr W3).1
  have N3 := Fr.snoc X3 N0 g1
  refine oS (u' := T3.setTop (mkF m 34 #[.val (.int p1), .val (.ref a1), .val (.int p3), .val (.int (p1 / (188 : Int32))), .val (.int (p1 % (188 : Int32)))] [])) st3 ?_
  refine oS (u' := T3.setTop (mkF m 35 #[.val (.int p1), .val (.ref a1), .val (.int p3), .val (.int (p1 / (188 : Int32))), .val (.int (p1 % (188 : Int32)))] [(.ref a1)])) (fun _ kst => XS.aloadN X3.here hx rfl (hb hby own_d1_34) rfl rfl kst) ?_
  refine oS (u' := T3.setTop (mkF m 36 #[.val (.int p1), .val (.ref a1), .val (.int p3), .val (.int (p1 / (188 : Int32))), .val (.int (p1 % (188 : Int32)))] [(.int p3), (.ref a1)])) (fun _ kst => XS.iloadN X3.here hx rfl (hb hby own_d1_35) rfl kst) ?_
  refine oS (u' := T3.setTop (mkF m 37 #[.val (.int p1), .val (.ref a1), .val (.int p3), .val (.int (p1 / (188 : Int32))), .val (.int (p1 % (188 : Int32)))] [(.int (1 : Int32)), (.int p3), (.ref a1)])) (fun _ kst => XS.iconst X3.here hx rfl (hb hby own_d1_36) kst) ?_
  refine oS (u' := T3.setTop (mkF m 38 #[.val (.int p1), .val (.ref a1), .val (.int p3), .val (.int (p1 / (188 : Int32))), .val (.int (p1 % (188 : Int32)))] [(.int (p3 + (1 : Int32))), (.ref a1)])) (fun _ kst => XS.iadd X3.here hx rfl (hb hby own_d1_37) rfl kst) ?_
  refine oS (u' := T3.setTop (mkF m 40 #[.val (.int p1), .val (.ref a1), .val (.int p3), .val (.int (p1 / (188 : Int32))), .val (.int (p1 % (188 : Int32)))] [(.int (p1 % (188 : Int32))), (.int (p3 + (1 : Int32))), (.ref a1)])) (fun _ kst => XS.iload X3.here hx rfl (hb hby own_d1_38) rfl kst) ?_
  refine oS (u' := T3.setTop (mkF m 42 #[.val (.int p1), .val (.ref a1), .val (.int p3), .val (.int (p1 / (188 : Int32))), .val (.int (p1 % (188 : Int32)))] [(.int (p1 % (188 : Int32))), (.int (p1 % (188 : Int32))), (.int (p3 + (1 : Int32))), (.ref a1)])) (fun _ kst => XS.iload X3.here hx rfl (hb hby own_d1_40) rfl kst) ?_
  refine oS (u' := T3.setTop (mkF m 44 #[.val (.int p1), .val (.ref a1), .val (.int p3), .val (.int (p1 / (188 : Int32))), .val (.int (p1 % (188 : Int32)))] [(.int (63 : Int32)), (.int (p1 % (188 : Int32))), (.int (p1 % (188 : Int32))), (.int (p3 + (1 : Int32))), (.ref a1)])) (fun _ kst => XS.bipush X3.here hx rfl (hb hby own_d1_42) kst) ?_
  have km5 : ∀ t, Steps p.tables e below (T3.setTop (mkF m 54 #[.val (.int p1), .val (.ref a1), .val (.int p3), .val (.int (p1 / (188 : Int32))), .val (.int (p1 % (188 : Int32)))] [(.int (if (p1 % (188 : Int32)) < (63 : Int32) then (64 : Int32) else (65 : Int32))), (.int (p1 % (188 : Int32))), (.int (p3 + (1 : Int32))), (.ref a1)])) t → Steps p.tables e below (T3.setTop (mkF m 44 #[.val (.int p1), .val (.ref a1), .val (.int p3), .val (.int (p1 / (188 : Int32))), .val (.int (p1 % (188 : Int32)))] [(.int (63 : Int32)), (.int (p1 % (188 : Int32))), (.int (p1 % (188 : Int32))), (.int (p3 + (1 : Int32))), (.ref a1)])) t := by
    intro tgt kst
    by_cases hc4 : (p1 % (188 : Int32)) < (63 : Int32)
    · rw [show (if (p1 % (188 : Int32)) < (63 : Int32) then (64 : Int32) else (65 : Int32)) = (64 : Int32) from if_pos hc4] at kst
      refine XS.icmpNo X3.here hx rfl (hb hby own_d1_44) rfl (tlt hc4).2.1 ?_
      show Steps p.tables e below (T3.setTop (mkF m 47 #[.val (.int p1), .val (.ref a1), .val (.int p3), .val (.int (p1 / (188 : Int32))), .val (.int (p1 % (188 : Int32)))] [(.int (p1 % (188 : Int32))), (.int (p3 + (1 : Int32))), (.ref a1)])) _
      refine XS.bipush X3.here hx rfl (hb hby own_d1_47) ?_
      show Steps p.tables e below (T3.setTop (mkF m 49 #[.val (.int p1), .val (.ref a1), .val (.int p3), .val (.int (p1 / (188 : Int32))), .val (.int (p1 % (188 : Int32)))] [(.int (64 : Int32)), (.int (p1 % (188 : Int32))), (.int (p3 + (1 : Int32))), (.ref a1)])) _
      refine XS.goto X3.here hx rfl (pc0 := 49) (pc' := 54) rfl (hb hby own_d1_49) (by decide) (by decide) ?_
      show Steps p.tables e below (T3.setTop (mkF m 54 #[.val (.int p1), .val (.ref a1), .val (.int p3), .val (.int (p1 / (188 : Int32))), .val (.int (p1 % (188 : Int32)))] [(.int (64 : Int32)), (.int (p1 % (188 : Int32))), (.int (p3 + (1 : Int32))), (.ref a1)])) _
      exact kst
    · rw [show (if (p1 % (188 : Int32)) < (63 : Int32) then (64 : Int32) else (65 : Int32)) = (65 : Int32) from if_neg hc4] at kst
      refine XS.icmpYes X3.here hx rfl (pc0 := 44) (pc' := 52) rfl (hb hby own_d1_44) rfl (flt hc4).2.1 (by decide) (by decide) ?_
      show Steps p.tables e below (T3.setTop (mkF m 52 #[.val (.int p1), .val (.ref a1), .val (.int p3), .val (.int (p1 / (188 : Int32))), .val (.int (p1 % (188 : Int32)))] [(.int (p1 % (188 : Int32))), (.int (p3 + (1 : Int32))), (.ref a1)])) _
      refine XS.bipush X3.here hx rfl (hb hby own_d1_52) ?_
      show Steps p.tables e below (T3.setTop (mkF m 54 #[.val (.int p1), .val (.ref a1), .val (.int p3), .val (.int (p1 / (188 : Int32))), .val (.int (p1 % (188 : Int32)))] [(.int (65 : Int32)), (.int (p1 % (188 : Int32))), (.int (p3 + (1 : Int32))), (.ref a1)])) _
      exact kst
  refine oS (u' := T3.setTop (mkF m 54 #[.val (.int p1), .val (.ref a1), .val (.int p3), .val (.int (p1 / (188 : Int32))), .val (.int (p1 % (188 : Int32)))] [(.int (if (p1 % (188 : Int32)) < (63 : Int32) then (64 : Int32) else (65 : Int32))), (.int (p1 % (188 : Int32))), (.int (p3 + (1 : Int32))), (.ref a1)])) km5 ?_
  refine oS (u' := T3.setTop (mkF m 55 #[.val (.int p1), .val (.ref a1), .val (.int p3), .val (.int (p1 / (188 : Int32))), .val (.int (p1 % (188 : Int32)))] [(.int ((p1 % (188 : Int32)) + (if (p1 % (188 : Int32)) < (63 : Int32) then (64 : Int32) else (65 : Int32)))), (.int (p3 + (1 : Int32))), (.ref a1)])) (fun _ kst => XS.iadd X3.here hx rfl (hb hby own_d1_54) rfl kst) ?_
  refine oS (u' := T3.setTop (mkF m 56 #[.val (.int p1), .val (.ref a1), .val (.int p3), .val (.int (p1 / (188 : Int32))), .val (.int (p1 % (188 : Int32)))] [(.int ((p1 % (188 : Int32)) + (if (p1 % (188 : Int32)) < (63 : Int32) then (64 : Int32) else (65 : Int32))).toInt8.toInt32), (.int (p3 + (1 : Int32))), (.ref a1)])) (fun _ kst => XS.i2b X3.here hx rfl (hb hby own_d1_55) rfl kst) ?_
  obtain ⟨T6, h6, X6, e6, W6, st6⟩ := own_stB X3 hx hZ e3 f3_A_a1 (k := (k + 1)) (own_add1 hj (by omega)) hk (g := (mkF m 56 #[.val (.int p1), .val (.ref a1), .val (.int p3), .val (.int (p1 / (188 : Int32))), .val (.int (p1 % (188 : Int32)))] [(.int ((p1 % (188 : Int32)) + (if (p1 % (188 : Int32)) < (63 : Int32) then (64 : Int32) else (65 : Int32))).toInt8.toInt32), (.int (p3 + (1 : Int32))), (.ref a1)])) rfl rfl (hb hby own_d1_56)
  have f6_A_a1 := f3_A_a1.set W6 hk
  have K6 := K3.wr W6 (Or.inl (List.mem_of_getElem? (i := 0) rfl))
  have Z6 := Nat.le_trans Z3 (Keep.of_wr W6).1
  have N6 := Fr.snoc X6 N3 g1
  refine oS (u' := T6.setTop (mkF m 57 #[.val (.int p1), .val (.ref a1), .val (.int p3), .val (.int (p1 / (188 : Int32))), .val (.int (p1 % (188 : Int32)))] [])) st6 ?_
  refine oS (u' := T6.setTop (mkF m 58 #[.val (.int p1), .val (.ref a1), .val (.int p3), .val (.int (p1 / (188 : Int32))), .val (.int (p1 % (188 : Int32)))] [(.int (2 : Int32))])) (fun _ kst => XS.iconst X6.here hx rfl (hb hby own_d1_57) kst) ?_
  refine own_retI X6 hx hlk hret (hb hby own_d1_58) ?_ (by decide) (by decide)
  show _ ∧ _
  rw [e6]
  exact ⟨rfl, N6, K6, f6_A_a1⟩
theorem own_d2_0 : decode method_3_code 0 = .ok (.iload_n 1, 1) := by decide +kernel
theorem own_d2_1 : decode method_3_code 1 = .ok (.iload_n 2, 1) := by decide +kernel
theorem own_d2_2 : decode method_3_code 2 = .ok (.if_icmp .eq 17, 3) := by decide +kernel
theorem own_d2_5 : decode method_3_code 5 = .ok (.iload_n 1, 1) := by decide +kernel
theorem own_d2_6 : decode method_3_code 6 = .ok (.iload_n 2, 1) := by decide +kernel
theorem own_d2_7 : decode method_3_code 7 = .ok (.iconst 1, 1) := by decide +kernel
theorem own_d2_8 : decode method_3_code 8 = .ok (.iadd, 1) := by decide +kernel
theorem own_d2_9 : decode method_3_code 9 = .ok (.if_icmp .eq 10, 3) := by decide +kernel
theorem own_d2_12 : decode method_3_code 12 = .ok (.aload_n 0, 1) := by decide +kernel
theorem own_d2_13 : decode method_3_code 13 = .ok (.iload_n 1, 1) := by decide +kernel
theorem own_d2_14 : decode method_3_code 14 = .ok (.baload, 1) := by decide +kernel
theorem own_d2_15 : decode method_3_code 15 = .ok (.iload_n 3, 1) := by decide +kernel
theorem own_d2_16 : decode method_3_code 16 = .ok (.if_icmp .ne 7, 3) := by decide +kernel
theorem own_d2_19 : decode method_3_code 19 = .ok (.iconst 1, 1) := by decide +kernel
theorem own_d2_20 : decode method_3_code 20 = .ok (.goto 4, 3) := by decide +kernel
theorem own_d2_23 : decode method_3_code 23 = .ok (.iconst 0, 1) := by decide +kernel
theorem own_d2_24 : decode method_3_code 24 = .ok (.ireturn, 1) := by decide +kernel
theorem own_pn_ShiftJisWritePointerPinLaw : plainName "com/example/untwist_forms/untwistforms/internal/ShiftJisWritePointerPinLaw" = true := by first | (simp [plainName, overriddenIn]; done) | decide +kernel
theorem own_ef2 (m : MethodId) (x0 : Addr) (x1 : Int32) (x2 : Int32) (x3 : Int32) : entryFrame m #[(.ref x0), (.int x1), (.int x2), (.int x3)] 4 = mkF m 0 #[.val (.ref x0), .val (.int x1), .val (.int x2), .val (.int x3)] [] := by first | (simp [entryFrame, mkF, argsToLocals, Value.category, maxLocals]; done) | rfl
set_option maxRecDepth 65536 in
set_option maxHeartbeats 40000000 in
theorem own_rm_unt (l : Launch) (Z : State) (a0 : Array Value) (hw : ∀ d ∈ tables_1, d.before a0 Z = true) (a1 : Addr) (p2 : Int32) (p3 : Int32) (p4 : Int32) (f : Nat → Value) (i : Nat) (k : Nat) (h0 : Heap) (A1 : own_Ar Z h0 a1 .byte 6 f) (hi : p2.toInt = (i : Int)) (hi6 : i < 6) (hj : p3.toInt = (k : Int)) (hk : k + 1 < 6) (hf : i ≠ k → i ≠ k + 1 → f i = .int p4) : own_Con l Z [] (⟨"com/example/untwist_forms/untwistforms/internal/ShiftJisWritePointerPinLaw", "untouched", "([BIIB)Z"⟩ : MethodName) method_3_code 4 (some .boolean) ({ frames := 0, cells := 0, slots := 0, locals := 0 } : Room) #[(.ref a1), (.int p2), (.int p3), (.int p4)] h0 (own_Q1 (some (.int (1 : Int32))) h0) := by
  refine own_body (plainFor_of_name own_pn_ShiftJisWritePointerPinLaw) ?_
  intro p e s m below meth c s₁ X0 hx hby hml hret hlk hown hnm hZ e0
  refine oS (u' := s₁.setTop (mkF m 0 #[.val (.ref a1), .val (.int p2), .val (.int p3), .val (.int p4)] [])) (fun _ kst => castTop (own_ef2 m a1 p2 p3 p4) kst) ?_
  refine oS (u' := s₁.setTop (mkF m 1 #[.val (.ref a1), .val (.int p2), .val (.int p3), .val (.int p4)] [(.int p2)])) (fun _ kst => XS.iloadN X0.here hx rfl (hb hby own_d2_0) rfl kst) ?_
  refine oS (u' := s₁.setTop (mkF m 2 #[.val (.ref a1), .val (.int p2), .val (.int p3), .val (.int p4)] [(.int p3), (.int p2)])) (fun _ kst => XS.iloadN X0.here hx rfl (hb hby own_d2_1) rfl kst) ?_
  by_cases hc7 : p2 = p3
  · refine oS (u' := s₁.setTop (mkF m 19 #[.val (.ref a1), .val (.int p2), .val (.int p3), .val (.int p4)] [])) (fun _ kst => XS.icmpYes X0.here hx rfl (pc0 := 2) (pc' := 19) rfl (hb hby own_d2_2) rfl (teq hc7).1 (by decide) (by decide) kst) ?_
    refine oS (u' := s₁.setTop (mkF m 20 #[.val (.ref a1), .val (.int p2), .val (.int p3), .val (.int p4)] [(.int (1 : Int32))])) (fun _ kst => XS.iconst X0.here hx rfl (hb hby own_d2_19) kst) ?_
    refine oS (u' := s₁.setTop (mkF m 24 #[.val (.ref a1), .val (.int p2), .val (.int p3), .val (.int p4)] [(.int (1 : Int32))])) (fun _ kst => XS.goto X0.here hx rfl (pc0 := 20) (pc' := 24) rfl (hb hby own_d2_20) (by decide) (by decide) kst) ?_
    refine own_retN X0 hx hlk (t := .boolean) hret (by simp) (hb hby own_d2_24) ?_ (by decide) (by decide)
    exact ⟨rfl, e0, rfl⟩
  · refine oS (u' := s₁.setTop (mkF m 5 #[.val (.ref a1), .val (.int p2), .val (.int p3), .val (.int p4)] [])) (fun _ kst => XS.icmpNo X0.here hx rfl (hb hby own_d2_2) rfl (feq hc7).1 kst) ?_
    refine oS (u' := s₁.setTop (mkF m 6 #[.val (.ref a1), .val (.int p2), .val (.int p3), .val (.int p4)] [(.int p2)])) (fun _ kst => XS.iloadN X0.here hx rfl (hb hby own_d2_5) rfl kst) ?_
    refine oS (u' := s₁.setTop (mkF m 7 #[.val (.ref a1), .val (.int p2), .val (.int p3), .val (.int p4)] [(.int p3), (.int p2)])) (fun _ kst => XS.iloadN X0.here hx rfl (hb hby own_d2_6) rfl kst) ?_
    refine oS (u' := s₁.setTop (mkF m 8 #[.val (.ref a1), .val (.int p2), .val (.int p3), .val (.int p4)] [(.int (1 : Int32)), (.int p3), (.int p2)])) (fun _ kst => XS.iconst X0.here hx rfl (hb hby own_d2_7) kst) ?_
    refine oS (u' := s₁.setTop (mkF m 9 #[.val (.ref a1), .val (.int p2), .val (.int p3), .val (.int p4)] [(.int (p3 + (1 : Int32))), (.int p2)])) (fun _ kst => XS.iadd X0.here hx rfl (hb hby own_d2_8) rfl kst) ?_
    by_cases hc8 : p2 = (p3 + (1 : Int32))
    · refine oS (u' := s₁.setTop (mkF m 19 #[.val (.ref a1), .val (.int p2), .val (.int p3), .val (.int p4)] [])) (fun _ kst => XS.icmpYes X0.here hx rfl (pc0 := 9) (pc' := 19) rfl (hb hby own_d2_9) rfl (teq hc8).1 (by decide) (by decide) kst) ?_
      refine oS (u' := s₁.setTop (mkF m 20 #[.val (.ref a1), .val (.int p2), .val (.int p3), .val (.int p4)] [(.int (1 : Int32))])) (fun _ kst => XS.iconst X0.here hx rfl (hb hby own_d2_19) kst) ?_
      refine oS (u' := s₁.setTop (mkF m 24 #[.val (.ref a1), .val (.int p2), .val (.int p3), .val (.int p4)] [(.int (1 : Int32))])) (fun _ kst => XS.goto X0.here hx rfl (pc0 := 20) (pc' := 24) rfl (hb hby own_d2_20) (by decide) (by decide) kst) ?_
      refine own_retN X0 hx hlk (t := .boolean) hret (by simp) (hb hby own_d2_24) ?_ (by decide) (by decide)
      exact ⟨rfl, e0, rfl⟩
    · refine oS (u' := s₁.setTop (mkF m 12 #[.val (.ref a1), .val (.int p2), .val (.int p3), .val (.int p4)] [])) (fun _ kst => XS.icmpNo X0.here hx rfl (hb hby own_d2_9) rfl (feq hc8).1 kst) ?_
      refine oS (u' := s₁.setTop (mkF m 13 #[.val (.ref a1), .val (.int p2), .val (.int p3), .val (.int p4)] [(.ref a1)])) (fun _ kst => XS.aloadN X0.here hx rfl (hb hby own_d2_12) rfl rfl kst) ?_
      refine oS (u' := s₁.setTop (mkF m 14 #[.val (.ref a1), .val (.int p2), .val (.int p3), .val (.int p4)] [(.int p2), (.ref a1)])) (fun _ kst => XS.iloadN X0.here hx rfl (hb hby own_d2_13) rfl kst) ?_
      refine oS (u' := s₁.setTop (mkF m 15 #[.val (.ref a1), .val (.int p2), .val (.int p3), .val (.int p4)] [(.int p4)])) (fun tgt kst => own_ldB X0 hx hZ e0 A1 (k := i) (v := (.int p4)) hi hi6 (hf (own_ne1 hi hj hc7) (own_ne2 hi hj hk hc8)) (g := (mkF m 14 #[.val (.ref a1), .val (.int p2), .val (.int p3), .val (.int p4)] [(.int p2), (.ref a1)])) rfl rfl (hb hby own_d2_14) tgt kst) ?_
      refine oS (u' := s₁.setTop (mkF m 16 #[.val (.ref a1), .val (.int p2), .val (.int p3), .val (.int p4)] [(.int p4), (.int p4)])) (fun _ kst => XS.iloadN X0.here hx rfl (hb hby own_d2_15) rfl kst) ?_
      refine oS (u' := s₁.setTop (mkF m 19 #[.val (.ref a1), .val (.int p2), .val (.int p3), .val (.int p4)] [])) (fun _ kst => XS.icmpNo X0.here hx rfl (hb hby own_d2_16) rfl (teq (rfl : p4 = p4)).2 kst) ?_
      refine oS (u' := s₁.setTop (mkF m 20 #[.val (.ref a1), .val (.int p2), .val (.int p3), .val (.int p4)] [(.int (1 : Int32))])) (fun _ kst => XS.iconst X0.here hx rfl (hb hby own_d2_19) kst) ?_
      refine oS (u' := s₁.setTop (mkF m 24 #[.val (.ref a1), .val (.int p2), .val (.int p3), .val (.int p4)] [(.int (1 : Int32))])) (fun _ kst => XS.goto X0.here hx rfl (pc0 := 20) (pc' := 24) rfl (hb hby own_d2_20) (by decide) (by decide) kst) ?_
      refine own_retN X0 hx hlk (t := .boolean) hret (by simp) (hb hby own_d2_24) ?_ (by decide) (by decide)
      exact ⟨rfl, e0, rfl⟩
theorem own_ef0 (m : MethodId) (x0 : Int32) (x1 : Int32) (x2 : Int32) : entryFrame m #[(.int x0), (.int x1), (.int x2)] maxLocals = mkF m 0 #[.val (.int x0), .val (.int x1), .val (.int x2), .unset, .unset, .unset, .unset, .unset, .unset, .unset, .unset, .unset, .unset, .unset] [] := by first | (simp [entryFrame, mkF, argsToLocals, Value.category, maxLocals]; done) | rfl
theorem own_pd0 : parseMethodDescriptor "(I[BI)I" = some ⟨[.int, (.array .byte), .int], some .int⟩ := by decide +kernel
theorem own_pd1 : parseMethodDescriptor "([BIIB)Z" = some ⟨[(.array .byte), .int, .int, .byte], some .boolean⟩ := by decide +kernel
set_option maxRecDepth 65536 in
set_option maxHeartbeats 40000000 in
theorem own_law (l : Launch) (Z : State) (a0 : Array Value) (hw : ∀ d ∈ tables_1, d.before a0 Z = true) (p1 : Int32) (p2 : Int32) (p3 : Int32) (h0 : Heap) (n0 : Nat) (Z0 : n0 ≤ h0.size) : own_Con l Z tables_1 x code maxLocals ret room_1 #[(.int p1), (.int p2), (.int p3)] h0 (fun v _ L => v = some (.int (1 : Int32)) ∧ Fr n0 L) := by
  refine own_body (plainFor_of_name own_pn_ShiftJisWritePointerPinLaw) ?_
  intro p e s m below meth c s₁ X0 hx hby hml hret hlk hown hnm hZ e0
  obtain ⟨k, hj, hk4⟩ := own_at_nat p2
  have N0 := Fr.nil n0
  refine oS (u' := s₁.setTop (mkF m 0 #[.val (.int p1), .val (.int p2), .val (.int p3), .unset, .unset, .unset, .unset, .unset, .unset, .unset, .unset, .unset, .unset, .unset] [])) (fun _ kst => castTop (own_ef0 m p1 p2 p3) kst) ?_
  refine oS (u' := s₁.setTop (mkF m 1 #[.val (.int p1), .val (.int p2), .val (.int p3), .unset, .unset, .unset, .unset, .unset, .unset, .unset, .unset, .unset, .unset, .unset] [(.int p1)])) (fun _ kst => XS.iloadN X0.here hx rfl (hb hby at_0) rfl kst) ?_
  refine oS (u' := s₁.setTop (mkF m 3 #[.val (.int p1), .val (.int p2), .val (.int p3), .unset, .unset, .unset, .unset, .unset, .unset, .unset, .unset, .unset, .unset, .unset] [(.int (2147483647 : Int32)), (.int p1)])) (fun _ kst => X0.ldcInt hx hown (mvT hZ (hw _ (List.mem_of_getElem? (i := 0) rfl))) (g := (mkF m 1 #[.val (.int p1), .val (.int p2), .val (.int p3), .unset, .unset, .unset, .unset, .unset, .unset, .unset, .unset, .unset, .unset, .unset] [(.int p1)])) rfl (hb hby at_1) _ kst) ?_
  refine oS (u' := s₁.setTop (mkF m 4 #[.val (.int p1), .val (.int p2), .val (.int p3), .unset, .unset, .unset, .unset, .unset, .unset, .unset, .unset, .unset, .unset, .unset] [(.int (p1 &&& (2147483647 : Int32)))])) (fun _ kst => XS.iand X0.here hx rfl (hb hby at_3) rfl kst) ?_
  refine oS (u' := s₁.setTop (mkF m 7 #[.val (.int p1), .val (.int p2), .val (.int p3), .unset, .unset, .unset, .unset, .unset, .unset, .unset, .unset, .unset, .unset, .unset] [(.int (11280 : Int32)), (.int (p1 &&& (2147483647 : Int32)))])) (fun _ kst => XS.sipush X0.here hx rfl (hb hby at_4) kst) ?_
  refine oS (u' := s₁.setTop (mkF m 8 #[.val (.int p1), .val (.int p2), .val (.int p3), .unset, .unset, .unset, .unset, .unset, .unset, .unset, .unset, .unset, .unset, .unset] [(.int (own_p p1))])) (fun _ kst => iremM X0 hx rfl (hb hby at_7) rfl (by decide) kst) ?_
  refine oS (u' := s₁.setTop (mkF m 9 #[.val (.int p1), .val (.int p2), .val (.int p3), .val (.int (own_p p1)), .unset, .unset, .unset, .unset, .unset, .unset, .unset, .unset, .unset, .unset] [])) (fun _ kst => XS.istoreN X0.here hx rfl (hb hby at_8) rfl (l' := #[.val (.int p1), .val (.int p2), .val (.int p3), .val (.int (own_p p1)), .unset, .unset, .unset, .unset, .unset, .unset, .unset, .unset, .unset, .unset]) rfl kst) ?_
  refine oS (u' := s₁.setTop (mkF m 10 #[.val (.int p1), .val (.int p2), .val (.int p3), .val (.int (own_p p1)), .unset, .unset, .unset, .unset, .unset, .unset, .unset, .unset, .unset, .unset] [(.int p2)])) (fun _ kst => XS.iloadN X0.here hx rfl (hb hby at_9) rfl kst) ?_
  refine oS (u' := s₁.setTop (mkF m 11 #[.val (.int p1), .val (.int p2), .val (.int p3), .val (.int (own_p p1)), .unset, .unset, .unset, .unset, .unset, .unset, .unset, .unset, .unset, .unset] [(.int (3 : Int32)), (.int p2)])) (fun _ kst => XS.iconst X0.here hx rfl (hb hby at_10) kst) ?_
  refine oS (u' := s₁.setTop (mkF m 12 #[.val (.int p1), .val (.int p2), .val (.int p3), .val (.int (own_p p1)), .unset, .unset, .unset, .unset, .unset, .unset, .unset, .unset, .unset, .unset] [(.int (own_at p2))])) (fun _ kst => XS.iand X0.here hx rfl (hb hby at_11) rfl kst) ?_
  refine oS (u' := s₁.setTop (mkF m 14 #[.val (.int p1), .val (.int p2), .val (.int p3), .val (.int (own_p p1)), .val (.int (own_at p2)), .unset, .unset, .unset, .unset, .unset, .unset, .unset, .unset, .unset] [])) (fun _ kst => XS.istore X0.here hx rfl (hb hby at_12) rfl (l' := #[.val (.int p1), .val (.int p2), .val (.int p3), .val (.int (own_p p1)), .val (.int (own_at p2)), .unset, .unset, .unset, .unset, .unset, .unset, .unset, .unset, .unset]) rfl kst) ?_
  refine oS (u' := s₁.setTop (mkF m 15 #[.val (.int p1), .val (.int p2), .val (.int p3), .val (.int (own_p p1)), .val (.int (own_at p2)), .unset, .unset, .unset, .unset, .unset, .unset, .unset, .unset, .unset] [(.int p3)])) (fun _ kst => XS.iloadN X0.here hx rfl (hb hby at_14) rfl kst) ?_
  refine oS (u' := s₁.setTop (mkF m 16 #[.val (.int p1), .val (.int p2), .val (.int p3), .val (.int (own_p p1)), .val (.int (own_at p2)), .unset, .unset, .unset, .unset, .unset, .unset, .unset, .unset, .unset] [(.int (own_fill p3))])) (fun _ kst => XS.i2b X0.here hx rfl (hb hby at_15) rfl kst) ?_
  refine oS (u' := s₁.setTop (mkF m 18 #[.val (.int p1), .val (.int p2), .val (.int p3), .val (.int (own_p p1)), .val (.int (own_at p2)), .val (.int (own_fill p3)), .unset, .unset, .unset, .unset, .unset, .unset, .unset, .unset] [])) (fun _ kst => XS.istore X0.here hx rfl (hb hby at_16) rfl (l' := #[.val (.int p1), .val (.int p2), .val (.int p3), .val (.int (own_p p1)), .val (.int (own_at p2)), .val (.int (own_fill p3)), .unset, .unset, .unset, .unset, .unset, .unset, .unset, .unset]) rfl kst) ?_
  refine oS (u' := s₁.setTop (mkF m 20 #[.val (.int p1), .val (.int p2), .val (.int p3), .val (.int (own_p p1)), .val (.int (own_at p2)), .val (.int (own_fill p3)), .unset, .unset, .unset, .unset, .unset, .unset, .unset, .unset] [(.int (6 : Int32))])) (fun _ kst => XS.bipush X0.here hx rfl (hb hby at_18) kst) ?_
  obtain ⟨T9, h9, X9, e9, E9, A9, st9⟩ := own_newP X0 hx hZ (hw _ (List.mem_of_getElem? (i := 1) rfl)) e0 (g := (mkF m 20 #[.val (.int p1), .val (.int p2), .val (.int p3), .val (.int (own_p p1)), .val (.int (own_at p2)), .val (.int (own_fill p3)), .unset, .unset, .unset, .unset, .unset, .unset, .unset, .unset] [(.int (6 : Int32))])) rfl (hb hby at_20) rfl (k := 6) (by decide) (cap := 6) (by decide) (by decide) (by decide) (by decide)
  obtain ⟨b9, g9⟩ : ∃ z, z = h0.size := ⟨_, rfl⟩
  rw [← g9] at A9 st9
  have gb_b9 : n0 ≤ b9 := Nat.le_trans Z0 (Nat.le_of_eq g9.symm)
  have Z9 := Nat.le_trans Z0 E9.1
  have V9 : own_Ar Z h9 b9 .byte 6 (fun _ => .int (0 : Int32)) := A9
  refine oS (u' := T9.setTop (mkF m 22 #[.val (.int p1), .val (.int p2), .val (.int p3), .val (.int (own_p p1)), .val (.int (own_at p2)), .val (.int (own_fill p3)), .unset, .unset, .unset, .unset, .unset, .unset, .unset, .unset] [(.ref b9)])) st9 ?_
  refine oS (u' := T9.setTop (mkF m 24 #[.val (.int p1), .val (.int p2), .val (.int p3), .val (.int (own_p p1)), .val (.int (own_at p2)), .val (.int (own_fill p3)), .val (.ref b9), .unset, .unset, .unset, .unset, .unset, .unset, .unset] [])) (fun _ kst => XS.astore X9.here hx rfl (hb hby at_22) rfl rfl (l' := #[.val (.int p1), .val (.int p2), .val (.int p3), .val (.int (own_p p1)), .val (.int (own_at p2)), .val (.int (own_fill p3)), .val (.ref b9), .unset, .unset, .unset, .unset, .unset, .unset, .unset]) rfl kst) ?_
  refine oS (u' := T9.setTop (mkF m 26 #[.val (.int p1), .val (.int p2), .val (.int p3), .val (.int (own_p p1)), .val (.int (own_at p2)), .val (.int (own_fill p3)), .val (.ref b9), .unset, .unset, .unset, .unset, .unset, .unset, .unset] [(.ref b9)])) (fun _ kst => XS.aload X9.here hx rfl (hb hby at_24) rfl rfl kst) ?_
  refine oS (u' := T9.setTop (mkF m 27 #[.val (.int p1), .val (.int p2), .val (.int p3), .val (.int (own_p p1)), .val (.int (own_at p2)), .val (.int (own_fill p3)), .val (.ref b9), .unset, .unset, .unset, .unset, .unset, .unset, .unset] [(.int (0 : Int32)), (.ref b9)])) (fun _ kst => XS.iconst X9.here hx rfl (hb hby at_26) kst) ?_
  refine oS (u' := T9.setTop (mkF m 29 #[.val (.int p1), .val (.int p2), .val (.int p3), .val (.int (own_p p1)), .val (.int (own_at p2)), .val (.int (own_fill p3)), .val (.ref b9), .unset, .unset, .unset, .unset, .unset, .unset, .unset] [(.int (own_fill p3)), (.int (0 : Int32)), (.ref b9)])) (fun _ kst => XS.iload X9.here hx rfl (hb hby at_27) rfl kst) ?_
  obtain ⟨T10, h10, X10, e10, W10, st10⟩ := own_stB X9 hx hZ e9 V9 (k := 0) (by decide) (by decide) (g := (mkF m 29 #[.val (.int p1), .val (.int p2), .val (.int p3), .val (.int (own_p p1)), .val (.int (own_at p2)), .val (.int (own_fill p3)), .val (.ref b9), .unset, .unset, .unset, .unset, .unset, .unset, .unset] [(.int (own_fill p3)), (.int (0 : Int32)), (.ref b9)])) rfl rfl (hb hby at_29)
  have f10_A_b9 := V9.set W10 (by decide)
  have Z10 := Nat.le_trans Z9 (Keep.of_wr W10).1
  have N10 := Fr.snoc X10 N0 gb_b9
  refine oS (u' := T10.setTop (mkF m 30 #[.val (.int p1), .val (.int p2), .val (.int p3), .val (.int (own_p p1)), .val (.int (own_at p2)), .val (.int (own_fill p3)), .val (.ref b9), .unset, .unset, .unset, .unset, .unset, .unset, .unset] [])) st10 ?_
  refine oS (u' := T10.setTop (mkF m 32 #[.val (.int p1), .val (.int p2), .val (.int p3), .val (.int (own_p p1)), .val (.int (own_at p2)), .val (.int (own_fill p3)), .val (.ref b9), .unset, .unset, .unset, .unset, .unset, .unset, .unset] [(.ref b9)])) (fun _ kst => XS.aload X10.here hx rfl (hb hby at_30) rfl rfl kst) ?_
  refine oS (u' := T10.setTop (mkF m 33 #[.val (.int p1), .val (.int p2), .val (.int p3), .val (.int (own_p p1)), .val (.int (own_at p2)), .val (.int (own_fill p3)), .val (.ref b9), .unset, .unset, .unset, .unset, .unset, .unset, .unset] [(.int (1 : Int32)), (.ref b9)])) (fun _ kst => XS.iconst X10.here hx rfl (hb hby at_32) kst) ?_
  refine oS (u' := T10.setTop (mkF m 35 #[.val (.int p1), .val (.int p2), .val (.int p3), .val (.int (own_p p1)), .val (.int (own_at p2)), .val (.int (own_fill p3)), .val (.ref b9), .unset, .unset, .unset, .unset, .unset, .unset, .unset] [(.int (own_fill p3)), (.int (1 : Int32)), (.ref b9)])) (fun _ kst => XS.iload X10.here hx rfl (hb hby at_33) rfl kst) ?_
  obtain ⟨T11, h11, X11, e11, W11, st11⟩ := own_stB X10 hx hZ e10 f10_A_b9 (k := 1) (by decide) (by decide) (g := (mkF m 35 #[.val (.int p1), .val (.int p2), .val (.int p3), .val (.int (own_p p1)), .val (.int (own_at p2)), .val (.int (own_fill p3)), .val (.ref b9), .unset, .unset, .unset, .unset, .unset, .unset, .unset] [(.int (own_fill p3)), (.int (1 : Int32)), (.ref b9)])) rfl rfl (hb hby at_35)
  have f11_A_b9 := f10_A_b9.set W11 (by decide)
  have Z11 := Nat.le_trans Z10 (Keep.of_wr W11).1
  have N11 := Fr.snoc X11 N10 gb_b9
  refine oS (u' := T11.setTop (mkF m 36 #[.val (.int p1), .val (.int p2), .val (.int p3), .val (.int (own_p p1)), .val (.int (own_at p2)), .val (.int (own_fill p3)), .val (.ref b9), .unset, .unset, .unset, .unset, .unset, .unset, .unset] [])) st11 ?_
  refine oS (u' := T11.setTop (mkF m 38 #[.val (.int p1), .val (.int p2), .val (.int p3), .val (.int (own_p p1)), .val (.int (own_at p2)), .val (.int (own_fill p3)), .val (.ref b9), .unset, .unset, .unset, .unset, .unset, .unset, .unset] [(.ref b9)])) (fun _ kst => XS.aload X11.here hx rfl (hb hby at_36) rfl rfl kst) ?_
  refine oS (u' := T11.setTop (mkF m 39 #[.val (.int p1), .val (.int p2), .val (.int p3), .val (.int (own_p p1)), .val (.int (own_at p2)), .val (.int (own_fill p3)), .val (.ref b9), .unset, .unset, .unset, .unset, .unset, .unset, .unset] [(.int (2 : Int32)), (.ref b9)])) (fun _ kst => XS.iconst X11.here hx rfl (hb hby at_38) kst) ?_
  refine oS (u' := T11.setTop (mkF m 41 #[.val (.int p1), .val (.int p2), .val (.int p3), .val (.int (own_p p1)), .val (.int (own_at p2)), .val (.int (own_fill p3)), .val (.ref b9), .unset, .unset, .unset, .unset, .unset, .unset, .unset] [(.int (own_fill p3)), (.int (2 : Int32)), (.ref b9)])) (fun _ kst => XS.iload X11.here hx rfl (hb hby at_39) rfl kst) ?_
  obtain ⟨T12, h12, X12, e12, W12, st12⟩ := own_stB X11 hx hZ e11 f11_A_b9 (k := 2) (by decide) (by decide) (g := (mkF m 41 #[.val (.int p1), .val (.int p2), .val (.int p3), .val (.int (own_p p1)), .val (.int (own_at p2)), .val (.int (own_fill p3)), .val (.ref b9), .unset, .unset, .unset, .unset, .unset, .unset, .unset] [(.int (own_fill p3)), (.int (2 : Int32)), (.ref b9)])) rfl rfl (hb hby at_41)
  have f12_A_b9 := f11_A_b9.set W12 (by decide)
  have Z12 := Nat.le_trans Z11 (Keep.of_wr W12).1
  have N12 := Fr.snoc X12 N11 gb_b9
  refine oS (u' := T12.setTop (mkF m 42 #[.val (.int p1), .val (.int p2), .val (.int p3), .val (.int (own_p p1)), .val (.int (own_at p2)), .val (.int (own_fill p3)), .val (.ref b9), .unset, .unset, .unset, .unset, .unset, .unset, .unset] [])) st12 ?_
  refine oS (u' := T12.setTop (mkF m 44 #[.val (.int p1), .val (.int p2), .val (.int p3), .val (.int (own_p p1)), .val (.int (own_at p2)), .val (.int (own_fill p3)), .val (.ref b9), .unset, .unset, .unset, .unset, .unset, .unset, .unset] [(.ref b9)])) (fun _ kst => XS.aload X12.here hx rfl (hb hby at_42) rfl rfl kst) ?_
  refine oS (u' := T12.setTop (mkF m 45 #[.val (.int p1), .val (.int p2), .val (.int p3), .val (.int (own_p p1)), .val (.int (own_at p2)), .val (.int (own_fill p3)), .val (.ref b9), .unset, .unset, .unset, .unset, .unset, .unset, .unset] [(.int (3 : Int32)), (.ref b9)])) (fun _ kst => XS.iconst X12.here hx rfl (hb hby at_44) kst) ?_
  refine oS (u' := T12.setTop (mkF m 47 #[.val (.int p1), .val (.int p2), .val (.int p3), .val (.int (own_p p1)), .val (.int (own_at p2)), .val (.int (own_fill p3)), .val (.ref b9), .unset, .unset, .unset, .unset, .unset, .unset, .unset] [(.int (own_fill p3)), (.int (3 : Int32)), (.ref b9)])) (fun _ kst => XS.iload X12.here hx rfl (hb hby at_45) rfl kst) ?_
  obtain ⟨T13, h13, X13, e13, W13, st13⟩ := own_stB X12 hx hZ e12 f12_A_b9 (k := 3) (by decide) (by decide) (g := (mkF m 47 #[.val (.int p1), .val (.int p2), .val (.int p3), .val (.int (own_p p1)), .val (.int (own_at p2)), .val (.int (own_fill p3)), .val (.ref b9), .unset, .unset, .unset, .unset, .unset, .unset, .unset] [(.int (own_fill p3)), (.int (3 : Int32)), (.ref b9)])) rfl rfl (hb hby at_47)
  have f13_A_b9 := f12_A_b9.set W13 (by decide)
  have Z13 := Nat.le_trans Z12 (Keep.of_wr W13).1
  have N13 := Fr.snoc X13 N12 gb_b9
  refine oS (u' := T13.setTop (mkF m 48 #[.val (.int p1), .val (.int p2), .val (.int p3), .val (.int (own_p p1)), .val (.int (own_at p2)), .val (.int (own_fill p3)), .val (.ref b9), .unset, .unset, .unset, .unset, .unset, .unset, .unset] [])) st13 ?_
  refine oS (u' := T13.setTop (mkF m 50 #[.val (.int p1), .val (.int p2), .val (.int p3), .val (.int (own_p p1)), .val (.int (own_at p2)), .val (.int (own_fill p3)), .val (.ref b9), .unset, .unset, .unset, .unset, .unset, .unset, .unset] [(.ref b9)])) (fun _ kst => XS.aload X13.here hx rfl (hb hby at_48) rfl rfl kst) ?_
  refine oS (u' := T13.setTop (mkF m 51 #[.val (.int p1), .val (.int p2), .val (.int p3), .val (.int (own_p p1)), .val (.int (own_at p2)), .val (.int (own_fill p3)), .val (.ref b9), .unset, .unset, .unset, .unset, .unset, .unset, .unset] [(.int (4 : Int32)), (.ref b9)])) (fun _ kst => XS.iconst X13.here hx rfl (hb hby at_50) kst) ?_
  refine oS (u' := T13.setTop (mkF m 53 #[.val (.int p1), .val (.int p2), .val (.int p3), .val (.int (own_p p1)), .val (.int (own_at p2)), .val (.int (own_fill p3)), .val (.ref b9), .unset, .unset, .unset, .unset, .unset, .unset, .unset] [(.int (own_fill p3)), (.int (4 : Int32)), (.ref b9)])) (fun _ kst => XS.iload X13.here hx rfl (hb hby at_51) rfl kst) ?_
  obtain ⟨T14, h14, X14, e14, W14, st14⟩ := own_stB X13 hx hZ e13 f13_A_b9 (k := 4) (by decide) (by decide) (g := (mkF m 53 #[.val (.int p1), .val (.int p2), .val (.int p3), .val (.int (own_p p1)), .val (.int (own_at p2)), .val (.int (own_fill p3)), .val (.ref b9), .unset, .unset, .unset, .unset, .unset, .unset, .unset] [(.int (own_fill p3)), (.int (4 : Int32)), (.ref b9)])) rfl rfl (hb hby at_53)
  have f14_A_b9 := f13_A_b9.set W14 (by decide)
  have Z14 := Nat.le_trans Z13 (Keep.of_wr W14).1
  have N14 := Fr.snoc X14 N13 gb_b9
  refine oS (u' := T14.setTop (mkF m 54 #[.val (.int p1), .val (.int p2), .val (.int p3), .val (.int (own_p p1)), .val (.int (own_at p2)), .val (.int (own_fill p3)), .val (.ref b9), .unset, .unset, .unset, .unset, .unset, .unset, .unset] [])) st14 ?_
  refine oS (u' := T14.setTop (mkF m 56 #[.val (.int p1), .val (.int p2), .val (.int p3), .val (.int (own_p p1)), .val (.int (own_at p2)), .val (.int (own_fill p3)), .val (.ref b9), .unset, .unset, .unset, .unset, .unset, .unset, .unset] [(.ref b9)])) (fun _ kst => XS.aload X14.here hx rfl (hb hby at_54) rfl rfl kst) ?_
  refine oS (u' := T14.setTop (mkF m 57 #[.val (.int p1), .val (.int p2), .val (.int p3), .val (.int (own_p p1)), .val (.int (own_at p2)), .val (.int (own_fill p3)), .val (.ref b9), .unset, .unset, .unset, .unset, .unset, .unset, .unset] [(.int (5 : Int32)), (.ref b9)])) (fun _ kst => XS.iconst X14.here hx rfl (hb hby at_56) kst) ?_
  refine oS (u' := T14.setTop (mkF m 59 #[.val (.int p1), .val (.int p2), .val (.int p3), .val (.int (own_p p1)), .val (.int (own_at p2)), .val (.int (own_fill p3)), .val (.ref b9), .unset, .unset, .unset, .unset, .unset, .unset, .unset] [(.int (own_fill p3)), (.int (5 : Int32)), (.ref b9)])) (fun _ kst => XS.iload X14.here hx rfl (hb hby at_57) rfl kst) ?_
  obtain ⟨T15, h15, X15, e15, W15, st15⟩ := own_stB X14 hx hZ e14 f14_A_b9 (k := 5) (by decide) (by decide) (g := (mkF m 59 #[.val (.int p1), .val (.int p2), .val (.int p3), .val (.int (own_p p1)), .val (.int (own_at p2)), .val (.int (own_fill p3)), .val (.ref b9), .unset, .unset, .unset, .unset, .unset, .unset, .unset] [(.int (own_fill p3)), (.int (5 : Int32)), (.ref b9)])) rfl rfl (hb hby at_59)
  have f15_A_b9 := f14_A_b9.set W15 (by decide)
  have Z15 := Nat.le_trans Z14 (Keep.of_wr W15).1
  have N15 := Fr.snoc X15 N14 gb_b9
  refine oS (u' := T15.setTop (mkF m 60 #[.val (.int p1), .val (.int p2), .val (.int p3), .val (.int (own_p p1)), .val (.int (own_at p2)), .val (.int (own_fill p3)), .val (.ref b9), .unset, .unset, .unset, .unset, .unset, .unset, .unset] [])) st15 ?_
  have V16 : own_Ar Z h15 b9 .byte 6 (fun _ => .int (own_fill p3)) := (f15_A_b9).congr (own_filled _)
  refine oS (u' := T15.setTop (mkF m 61 #[.val (.int p1), .val (.int p2), .val (.int p3), .val (.int (own_p p1)), .val (.int (own_at p2)), .val (.int (own_fill p3)), .val (.ref b9), .unset, .unset, .unset, .unset, .unset, .unset, .unset] [(.int (own_p p1))])) (fun _ kst => XS.iloadN X15.here hx rfl (hb hby at_60) rfl kst) ?_
  refine oS (u' := T15.setTop (mkF m 63 #[.val (.int p1), .val (.int p2), .val (.int p3), .val (.int (own_p p1)), .val (.int (own_at p2)), .val (.int (own_fill p3)), .val (.ref b9), .unset, .unset, .unset, .unset, .unset, .unset, .unset] [(.ref b9), (.int (own_p p1))])) (fun _ kst => XS.aload X15.here hx rfl (hb hby at_61) rfl rfl kst) ?_
  refine oS (u' := T15.setTop (mkF m 65 #[.val (.int p1), .val (.int p2), .val (.int p3), .val (.int (own_p p1)), .val (.int (own_at p2)), .val (.int (own_fill p3)), .val (.ref b9), .unset, .unset, .unset, .unset, .unset, .unset, .unset] [(.int (own_at p2)), (.ref b9), (.int (own_p p1))])) (fun _ kst => XS.iload X15.here hx rfl (hb hby at_63) rfl kst) ?_
  obtain ⟨v17, T17, L17, X17, hQ17, st17⟩ := own_callS X15 hx hZ (y := (⟨"com/example/untwist_forms/untwistforms/internal/ShiftJis", "writePointer", "(I[BI)I"⟩ : MethodName)) hown (hw _ (List.mem_of_getElem? (i := 2) rfl)) (hw _ (List.mem_of_getElem? (i := 3) rfl)) (hw _ (List.mem_of_getElem? (i := 5) rfl)) (hw _ (List.mem_of_getElem? (i := 4) rfl)) (by decide) e15 (W := 0) (own_rm_wp l Z a0 hw (own_p p1) b9 (own_at p2) (fun _ => .int (own_fill p3)) k h15 n0 Z15 V16 gb_b9 hj (by omega)) (by decide) (by decide) (g := (mkF m 65 #[.val (.int p1), .val (.int p2), .val (.int p3), .val (.int (own_p p1)), .val (.int (own_at p2)), .val (.int (own_fill p3)), .val (.ref b9), .unset, .unset, .unset, .unset, .unset, .unset, .unset] [(.int (own_at p2)), (.ref b9), (.int (own_p p1))])) rfl (by rw [hml]; rfl) (argsL := [(.int (own_p p1)), (.ref b9), (.int (own_at p2))]) (rest := []) (lenOf own_pd0 rfl) rfl (by show 2 * 0 + _ ≤ _; exact Nat.le_of_eq rfl) (hb hby at_65) (by decide) (by decide)
  obtain ⟨rfl, Nq17, Kq17, A17⟩ := hQ17
  have Z17 := Nat.le_trans Z15 Kq17.1
  have N17 := Fr.app N15 Nq17
  refine oS (u' := T17.setTop (mkF m 68 #[.val (.int p1), .val (.int p2), .val (.int p3), .val (.int (own_p p1)), .val (.int (own_at p2)), .val (.int (own_fill p3)), .val (.ref b9), .unset, .unset, .unset, .unset, .unset, .unset, .unset] [(.int (2 : Int32))])) st17 ?_
  refine oS (u' := T17.setTop (mkF m 70 #[.val (.int p1), .val (.int p2), .val (.int p3), .val (.int (own_p p1)), .val (.int (own_at p2)), .val (.int (own_fill p3)), .val (.ref b9), .val (.int (2 : Int32)), .unset, .unset, .unset, .unset, .unset, .unset] [])) (fun _ kst => XS.istore X17.here hx rfl (hb hby at_68) rfl (l' := #[.val (.int p1), .val (.int p2), .val (.int p3), .val (.int (own_p p1)), .val (.int (own_at p2)), .val (.int (own_fill p3)), .val (.ref b9), .val (.int (2 : Int32)), .unset, .unset, .unset, .unset, .unset, .unset]) rfl kst) ?_
  refine oS (u' := T17.setTop (mkF m 72 #[.val (.int p1), .val (.int p2), .val (.int p3), .val (.int (own_p p1)), .val (.int (own_at p2)), .val (.int (own_fill p3)), .val (.ref b9), .val (.int (2 : Int32)), .unset, .unset, .unset, .unset, .unset, .unset] [(.ref b9)])) (fun _ kst => XS.aload X17.here hx rfl (hb hby at_70) rfl rfl kst) ?_
  refine oS (u' := T17.setTop (mkF m 74 #[.val (.int p1), .val (.int p2), .val (.int p3), .val (.int (own_p p1)), .val (.int (own_at p2)), .val (.int (own_fill p3)), .val (.ref b9), .val (.int (2 : Int32)), .unset, .unset, .unset, .unset, .unset, .unset] [(.int (own_at p2)), (.ref b9)])) (fun _ kst => XS.iload X17.here hx rfl (hb hby at_72) rfl kst) ?_
  refine oS (u' := T17.setTop (mkF m 75 #[.val (.int p1), .val (.int p2), .val (.int p3), .val (.int (own_p p1)), .val (.int (own_at p2)), .val (.int (own_fill p3)), .val (.ref b9), .val (.int (2 : Int32)), .unset, .unset, .unset, .unset, .unset, .unset] [(.int (own_lead (own_p p1)))])) (fun tgt kst => own_ldB X17 hx hZ rfl A17 (k := k) (v := (.int (own_lead (own_p p1)))) hj (by omega) own_g_1 (g := (mkF m 74 #[.val (.int p1), .val (.int p2), .val (.int p3), .val (.int (own_p p1)), .val (.int (own_at p2)), .val (.int (own_fill p3)), .val (.ref b9), .val (.int (2 : Int32)), .unset, .unset, .unset, .unset, .unset, .unset] [(.int (own_at p2)), (.ref b9)])) rfl rfl (hb hby at_74) tgt kst) ?_
  refine oS (u' := T17.setTop (mkF m 78 #[.val (.int p1), .val (.int p2), .val (.int p3), .val (.int (own_p p1)), .val (.int (own_at p2)), .val (.int (own_fill p3)), .val (.ref b9), .val (.int (2 : Int32)), .unset, .unset, .unset, .unset, .unset, .unset] [(.int (255 : Int32)), (.int (own_lead (own_p p1)))])) (fun _ kst => XS.sipush X17.here hx rfl (hb hby at_75) kst) ?_
  refine oS (u' := T17.setTop (mkF m 79 #[.val (.int p1), .val (.int p2), .val (.int p3), .val (.int (own_p p1)), .val (.int (own_at p2)), .val (.int (own_fill p3)), .val (.ref b9), .val (.int (2 : Int32)), .unset, .unset, .unset, .unset, .unset, .unset] [(.int (own_ld p1))])) (fun _ kst => XS.iand X17.here hx rfl (hb hby at_78) rfl kst) ?_
  refine oS (u' := T17.setTop (mkF m 81 #[.val (.int p1), .val (.int p2), .val (.int p3), .val (.int (own_p p1)), .val (.int (own_at p2)), .val (.int (own_fill p3)), .val (.ref b9), .val (.int (2 : Int32)), .val (.int (own_ld p1)), .unset, .unset, .unset, .unset, .unset] [])) (fun _ kst => XS.istore X17.here hx rfl (hb hby at_79) rfl (l' := #[.val (.int p1), .val (.int p2), .val (.int p3), .val (.int (own_p p1)), .val (.int (own_at p2)), .val (.int (own_fill p3)), .val (.ref b9), .val (.int (2 : Int32)), .val (.int (own_ld p1)), .unset, .unset, .unset, .unset, .unset]) rfl kst) ?_
  refine oS (u' := T17.setTop (mkF m 83 #[.val (.int p1), .val (.int p2), .val (.int p3), .val (.int (own_p p1)), .val (.int (own_at p2)), .val (.int (own_fill p3)), .val (.ref b9), .val (.int (2 : Int32)), .val (.int (own_ld p1)), .unset, .unset, .unset, .unset, .unset] [(.ref b9)])) (fun _ kst => XS.aload X17.here hx rfl (hb hby at_81) rfl rfl kst) ?_
  refine oS (u' := T17.setTop (mkF m 85 #[.val (.int p1), .val (.int p2), .val (.int p3), .val (.int (own_p p1)), .val (.int (own_at p2)), .val (.int (own_fill p3)), .val (.ref b9), .val (.int (2 : Int32)), .val (.int (own_ld p1)), .unset, .unset, .unset, .unset, .unset] [(.int (own_at p2)), (.ref b9)])) (fun _ kst => XS.iload X17.here hx rfl (hb hby at_83) rfl kst) ?_
  refine oS (u' := T17.setTop (mkF m 86 #[.val (.int p1), .val (.int p2), .val (.int p3), .val (.int (own_p p1)), .val (.int (own_at p2)), .val (.int (own_fill p3)), .val (.ref b9), .val (.int (2 : Int32)), .val (.int (own_ld p1)), .unset, .unset, .unset, .unset, .unset] [(.int (1 : Int32)), (.int (own_at p2)), (.ref b9)])) (fun _ kst => XS.iconst X17.here hx rfl (hb hby at_85) kst) ?_
  refine oS (u' := T17.setTop (mkF m 87 #[.val (.int p1), .val (.int p2), .val (.int p3), .val (.int (own_p p1)), .val (.int (own_at p2)), .val (.int (own_fill p3)), .val (.ref b9), .val (.int (2 : Int32)), .val (.int (own_ld p1)), .unset, .unset, .unset, .unset, .unset] [(.int ((own_at p2) + (1 : Int32))), (.ref b9)])) (fun _ kst => XS.iadd X17.here hx rfl (hb hby at_86) rfl kst) ?_
  refine oS (u' := T17.setTop (mkF m 88 #[.val (.int p1), .val (.int p2), .val (.int p3), .val (.int (own_p p1)), .val (.int (own_at p2)), .val (.int (own_fill p3)), .val (.ref b9), .val (.int (2 : Int32)), .val (.int (own_ld p1)), .unset, .unset, .unset, .unset, .unset] [(.int (own_trail (own_p p1)))])) (fun tgt kst => own_ldB X17 hx hZ rfl A17 (k := (k + 1)) (v := (.int (own_trail (own_p p1)))) (own_add1 hj (by omega)) (by omega) own_g_2 (g := (mkF m 87 #[.val (.int p1), .val (.int p2), .val (.int p3), .val (.int (own_p p1)), .val (.int (own_at p2)), .val (.int (own_fill p3)), .val (.ref b9), .val (.int (2 : Int32)), .val (.int (own_ld p1)), .unset, .unset, .unset, .unset, .unset] [(.int ((own_at p2) + (1 : Int32))), (.ref b9)])) rfl rfl (hb hby at_87) tgt kst) ?_
  refine oS (u' := T17.setTop (mkF m 91 #[.val (.int p1), .val (.int p2), .val (.int p3), .val (.int (own_p p1)), .val (.int (own_at p2)), .val (.int (own_fill p3)), .val (.ref b9), .val (.int (2 : Int32)), .val (.int (own_ld p1)), .unset, .unset, .unset, .unset, .unset] [(.int (255 : Int32)), (.int (own_trail (own_p p1)))])) (fun _ kst => XS.sipush X17.here hx rfl (hb hby at_88) kst) ?_
  refine oS (u' := T17.setTop (mkF m 92 #[.val (.int p1), .val (.int p2), .val (.int p3), .val (.int (own_p p1)), .val (.int (own_at p2)), .val (.int (own_fill p3)), .val (.ref b9), .val (.int (2 : Int32)), .val (.int (own_ld p1)), .unset, .unset, .unset, .unset, .unset] [(.int (own_tr p1))])) (fun _ kst => XS.iand X17.here hx rfl (hb hby at_91) rfl kst) ?_
  refine oS (u' := T17.setTop (mkF m 94 #[.val (.int p1), .val (.int p2), .val (.int p3), .val (.int (own_p p1)), .val (.int (own_at p2)), .val (.int (own_fill p3)), .val (.ref b9), .val (.int (2 : Int32)), .val (.int (own_ld p1)), .val (.int (own_tr p1)), .unset, .unset, .unset, .unset] [])) (fun _ kst => XS.istore X17.here hx rfl (hb hby at_92) rfl (l' := #[.val (.int p1), .val (.int p2), .val (.int p3), .val (.int (own_p p1)), .val (.int (own_at p2)), .val (.int (own_fill p3)), .val (.ref b9), .val (.int (2 : Int32)), .val (.int (own_ld p1)), .val (.int (own_tr p1)), .unset, .unset, .unset, .unset]) rfl kst) ?_
  refine oS (u' := T17.setTop (mkF m 96 #[.val (.int p1), .val (.int p2), .val (.int p3), .val (.int (own_p p1)), .val (.int (own_at p2)), .val (.int (own_fill p3)), .val (.ref b9), .val (.int (2 : Int32)), .val (.int (own_ld p1)), .val (.int (own_tr p1)), .unset, .unset, .unset, .unset] [(.int (own_ld p1))])) (fun _ kst => XS.iload X17.here hx rfl (hb hby at_94) rfl kst) ?_
  refine oS (u' := T17.setTop (mkF m 99 #[.val (.int p1), .val (.int p2), .val (.int p3), .val (.int (own_p p1)), .val (.int (own_at p2)), .val (.int (own_fill p3)), .val (.ref b9), .val (.int (2 : Int32)), .val (.int (own_ld p1)), .val (.int (own_tr p1)), .unset, .unset, .unset, .unset] [(.int (129 : Int32)), (.int (own_ld p1))])) (fun _ kst => XS.sipush X17.here hx rfl (hb hby at_96) kst) ?_
  refine oS (u' := T17.setTop (mkF m 102 #[.val (.int p1), .val (.int p2), .val (.int p3), .val (.int (own_p p1)), .val (.int (own_at p2)), .val (.int (own_fill p3)), .val (.ref b9), .val (.int (2 : Int32)), .val (.int (own_ld p1)), .val (.int (own_tr p1)), .unset, .unset, .unset, .unset] [])) (fun _ kst => XS.icmpNo X17.here hx rfl (hb hby at_99) rfl (flt (own_L1 p1)).1 kst) ?_
  refine oS (u' := T17.setTop (mkF m 104 #[.val (.int p1), .val (.int p2), .val (.int p3), .val (.int (own_p p1)), .val (.int (own_at p2)), .val (.int (own_fill p3)), .val (.ref b9), .val (.int (2 : Int32)), .val (.int (own_ld p1)), .val (.int (own_tr p1)), .unset, .unset, .unset, .unset] [(.int (own_ld p1))])) (fun _ kst => XS.iload X17.here hx rfl (hb hby at_102) rfl kst) ?_
  refine oS (u' := T17.setTop (mkF m 107 #[.val (.int p1), .val (.int p2), .val (.int p3), .val (.int (own_p p1)), .val (.int (own_at p2)), .val (.int (own_fill p3)), .val (.ref b9), .val (.int (2 : Int32)), .val (.int (own_ld p1)), .val (.int (own_tr p1)), .unset, .unset, .unset, .unset] [(.int (159 : Int32)), (.int (own_ld p1))])) (fun _ kst => XS.sipush X17.here hx rfl (hb hby at_104) kst) ?_
  have km19 : ∀ t, Steps p.tables e below (T17.setTop (mkF m 131 #[.val (.int p1), .val (.int p2), .val (.int p3), .val (.int (own_p p1)), .val (.int (own_at p2)), .val (.int (own_fill p3)), .val (.ref b9), .val (.int (2 : Int32)), .val (.int (own_ld p1)), .val (.int (own_tr p1)), .unset, .unset, .unset, .unset] [(.int (1 : Int32))])) t → Steps p.tables e below (T17.setTop (mkF m 107 #[.val (.int p1), .val (.int p2), .val (.int p3), .val (.int (own_p p1)), .val (.int (own_at p2)), .val (.int (own_fill p3)), .val (.ref b9), .val (.int (2 : Int32)), .val (.int (own_ld p1)), .val (.int (own_tr p1)), .unset, .unset, .unset, .unset] [(.int (159 : Int32)), (.int (own_ld p1))])) t := by
    intro tgt kst
    by_cases hc18 : (159 : Int32) < (own_ld p1)
    · refine XS.icmpNo X17.here hx rfl (hb hby at_107) rfl (tlt hc18).2.2.2 ?_
      show Steps p.tables e below (T17.setTop (mkF m 110 #[.val (.int p1), .val (.int p2), .val (.int p3), .val (.int (own_p p1)), .val (.int (own_at p2)), .val (.int (own_fill p3)), .val (.ref b9), .val (.int (2 : Int32)), .val (.int (own_ld p1)), .val (.int (own_tr p1)), .unset, .unset, .unset, .unset] [])) _
      refine XS.iload X17.here hx rfl (hb hby at_110) rfl ?_
      show Steps p.tables e below (T17.setTop (mkF m 112 #[.val (.int p1), .val (.int p2), .val (.int p3), .val (.int (own_p p1)), .val (.int (own_at p2)), .val (.int (own_fill p3)), .val (.ref b9), .val (.int (2 : Int32)), .val (.int (own_ld p1)), .val (.int (own_tr p1)), .unset, .unset, .unset, .unset] [(.int (own_ld p1))])) _
      refine XS.sipush X17.here hx rfl (hb hby at_112) ?_
      show Steps p.tables e below (T17.setTop (mkF m 115 #[.val (.int p1), .val (.int p2), .val (.int p3), .val (.int (own_p p1)), .val (.int (own_at p2)), .val (.int (own_fill p3)), .val (.ref b9), .val (.int (2 : Int32)), .val (.int (own_ld p1)), .val (.int (own_tr p1)), .unset, .unset, .unset, .unset] [(.int (224 : Int32)), (.int (own_ld p1))])) _
      refine XS.icmpNo X17.here hx rfl (hb hby at_115) rfl (flt (own_L2 p1 hc18)).1 ?_
      show Steps p.tables e below (T17.setTop (mkF m 118 #[.val (.int p1), .val (.int p2), .val (.int p3), .val (.int (own_p p1)), .val (.int (own_at p2)), .val (.int (own_fill p3)), .val (.ref b9), .val (.int (2 : Int32)), .val (.int (own_ld p1)), .val (.int (own_tr p1)), .unset, .unset, .unset, .unset] [])) _
      refine XS.iload X17.here hx rfl (hb hby at_118) rfl ?_
      show Steps p.tables e below (T17.setTop (mkF m 120 #[.val (.int p1), .val (.int p2), .val (.int p3), .val (.int (own_p p1)), .val (.int (own_at p2)), .val (.int (own_fill p3)), .val (.ref b9), .val (.int (2 : Int32)), .val (.int (own_ld p1)), .val (.int (own_tr p1)), .unset, .unset, .unset, .unset] [(.int (own_ld p1))])) _
      refine XS.sipush X17.here hx rfl (hb hby at_120) ?_
      show Steps p.tables e below (T17.setTop (mkF m 123 #[.val (.int p1), .val (.int p2), .val (.int p3), .val (.int (own_p p1)), .val (.int (own_at p2)), .val (.int (own_fill p3)), .val (.ref b9), .val (.int (2 : Int32)), .val (.int (own_ld p1)), .val (.int (own_tr p1)), .unset, .unset, .unset, .unset] [(.int (252 : Int32)), (.int (own_ld p1))])) _
      refine XS.icmpNo X17.here hx rfl (hb hby at_123) rfl (flt (own_L3 p1)).2.2.1 ?_
      show Steps p.tables e below (T17.setTop (mkF m 126 #[.val (.int p1), .val (.int p2), .val (.int p3), .val (.int (own_p p1)), .val (.int (own_at p2)), .val (.int (own_fill p3)), .val (.ref b9), .val (.int (2 : Int32)), .val (.int (own_ld p1)), .val (.int (own_tr p1)), .unset, .unset, .unset, .unset] [])) _
      refine XS.iconst X17.here hx rfl (hb hby at_126) ?_
      show Steps p.tables e below (T17.setTop (mkF m 127 #[.val (.int p1), .val (.int p2), .val (.int p3), .val (.int (own_p p1)), .val (.int (own_at p2)), .val (.int (own_fill p3)), .val (.ref b9), .val (.int (2 : Int32)), .val (.int (own_ld p1)), .val (.int (own_tr p1)), .unset, .unset, .unset, .unset] [(.int (1 : Int32))])) _
      refine XS.goto X17.here hx rfl (pc0 := 127) (pc' := 131) rfl (hb hby at_127) (by decide) (by decide) ?_
      show Steps p.tables e below (T17.setTop (mkF m 131 #[.val (.int p1), .val (.int p2), .val (.int p3), .val (.int (own_p p1)), .val (.int (own_at p2)), .val (.int (own_fill p3)), .val (.ref b9), .val (.int (2 : Int32)), .val (.int (own_ld p1)), .val (.int (own_tr p1)), .unset, .unset, .unset, .unset] [(.int (1 : Int32))])) _
      exact kst
    · refine XS.icmpYes X17.here hx rfl (pc0 := 107) (pc' := 126) rfl (hb hby at_107) rfl (flt hc18).2.2.2 (by decide) (by decide) ?_
      show Steps p.tables e below (T17.setTop (mkF m 126 #[.val (.int p1), .val (.int p2), .val (.int p3), .val (.int (own_p p1)), .val (.int (own_at p2)), .val (.int (own_fill p3)), .val (.ref b9), .val (.int (2 : Int32)), .val (.int (own_ld p1)), .val (.int (own_tr p1)), .unset, .unset, .unset, .unset] [])) _
      refine XS.iconst X17.here hx rfl (hb hby at_126) ?_
      show Steps p.tables e below (T17.setTop (mkF m 127 #[.val (.int p1), .val (.int p2), .val (.int p3), .val (.int (own_p p1)), .val (.int (own_at p2)), .val (.int (own_fill p3)), .val (.ref b9), .val (.int (2 : Int32)), .val (.int (own_ld p1)), .val (.int (own_tr p1)), .unset, .unset, .unset, .unset] [(.int (1 : Int32))])) _
      refine XS.goto X17.here hx rfl (pc0 := 127) (pc' := 131) rfl (hb hby at_127) (by decide) (by decide) ?_
      show Steps p.tables e below (T17.setTop (mkF m 131 #[.val (.int p1), .val (.int p2), .val (.int p3), .val (.int (own_p p1)), .val (.int (own_at p2)), .val (.int (own_fill p3)), .val (.ref b9), .val (.int (2 : Int32)), .val (.int (own_ld p1)), .val (.int (own_tr p1)), .unset, .unset, .unset, .unset] [(.int (1 : Int32))])) _
      exact kst
  refine oS (u' := T17.setTop (mkF m 131 #[.val (.int p1), .val (.int p2), .val (.int p3), .val (.int (own_p p1)), .val (.int (own_at p2)), .val (.int (own_fill p3)), .val (.ref b9), .val (.int (2 : Int32)), .val (.int (own_ld p1)), .val (.int (own_tr p1)), .unset, .unset, .unset, .unset] [(.int (1 : Int32))])) km19 ?_
  refine oS (u' := T17.setTop (mkF m 133 #[.val (.int p1), .val (.int p2), .val (.int p3), .val (.int (own_p p1)), .val (.int (own_at p2)), .val (.int (own_fill p3)), .val (.ref b9), .val (.int (2 : Int32)), .val (.int (own_ld p1)), .val (.int (own_tr p1)), .val (.int (1 : Int32)), .unset, .unset, .unset] [])) (fun _ kst => XS.istore X17.here hx rfl (hb hby at_131) rfl (l' := #[.val (.int p1), .val (.int p2), .val (.int p3), .val (.int (own_p p1)), .val (.int (own_at p2)), .val (.int (own_fill p3)), .val (.ref b9), .val (.int (2 : Int32)), .val (.int (own_ld p1)), .val (.int (own_tr p1)), .val (.int (1 : Int32)), .unset, .unset, .unset]) rfl kst) ?_
  refine oS (u' := T17.setTop (mkF m 135 #[.val (.int p1), .val (.int p2), .val (.int p3), .val (.int (own_p p1)), .val (.int (own_at p2)), .val (.int (own_fill p3)), .val (.ref b9), .val (.int (2 : Int32)), .val (.int (own_ld p1)), .val (.int (own_tr p1)), .val (.int (1 : Int32)), .unset, .unset, .unset] [(.int (own_tr p1))])) (fun _ kst => XS.iload X17.here hx rfl (hb hby at_133) rfl kst) ?_
  refine oS (u' := T17.setTop (mkF m 137 #[.val (.int p1), .val (.int p2), .val (.int p3), .val (.int (own_p p1)), .val (.int (own_at p2)), .val (.int (own_fill p3)), .val (.ref b9), .val (.int (2 : Int32)), .val (.int (own_ld p1)), .val (.int (own_tr p1)), .val (.int (1 : Int32)), .unset, .unset, .unset] [(.int (64 : Int32)), (.int (own_tr p1))])) (fun _ kst => XS.bipush X17.here hx rfl (hb hby at_135) kst) ?_
  refine oS (u' := T17.setTop (mkF m 140 #[.val (.int p1), .val (.int p2), .val (.int p3), .val (.int (own_p p1)), .val (.int (own_at p2)), .val (.int (own_fill p3)), .val (.ref b9), .val (.int (2 : Int32)), .val (.int (own_ld p1)), .val (.int (own_tr p1)), .val (.int (1 : Int32)), .unset, .unset, .unset] [])) (fun _ kst => XS.icmpNo X17.here hx rfl (hb hby at_137) rfl (flt (own_T1 p1)).1 kst) ?_
  refine oS (u' := T17.setTop (mkF m 142 #[.val (.int p1), .val (.int p2), .val (.int p3), .val (.int (own_p p1)), .val (.int (own_at p2)), .val (.int (own_fill p3)), .val (.ref b9), .val (.int (2 : Int32)), .val (.int (own_ld p1)), .val (.int (own_tr p1)), .val (.int (1 : Int32)), .unset, .unset, .unset] [(.int (own_tr p1))])) (fun _ kst => XS.iload X17.here hx rfl (hb hby at_140) rfl kst) ?_
  refine oS (u' := T17.setTop (mkF m 144 #[.val (.int p1), .val (.int p2), .val (.int p3), .val (.int (own_p p1)), .val (.int (own_at p2)), .val (.int (own_fill p3)), .val (.ref b9), .val (.int (2 : Int32)), .val (.int (own_ld p1)), .val (.int (own_tr p1)), .val (.int (1 : Int32)), .unset, .unset, .unset] [(.int (126 : Int32)), (.int (own_tr p1))])) (fun _ kst => XS.bipush X17.here hx rfl (hb hby at_142) kst) ?_
  have km21 : ∀ t, Steps p.tables e below (T17.setTop (mkF m 168 #[.val (.int p1), .val (.int p2), .val (.int p3), .val (.int (own_p p1)), .val (.int (own_at p2)), .val (.int (own_fill p3)), .val (.ref b9), .val (.int (2 : Int32)), .val (.int (own_ld p1)), .val (.int (own_tr p1)), .val (.int (1 : Int32)), .unset, .unset, .unset] [(.int (1 : Int32))])) t → Steps p.tables e below (T17.setTop (mkF m 144 #[.val (.int p1), .val (.int p2), .val (.int p3), .val (.int (own_p p1)), .val (.int (own_at p2)), .val (.int (own_fill p3)), .val (.ref b9), .val (.int (2 : Int32)), .val (.int (own_ld p1)), .val (.int (own_tr p1)), .val (.int (1 : Int32)), .unset, .unset, .unset] [(.int (126 : Int32)), (.int (own_tr p1))])) t := by
    intro tgt kst
    by_cases hc20 : (126 : Int32) < (own_tr p1)
    · refine XS.icmpNo X17.here hx rfl (hb hby at_144) rfl (tlt hc20).2.2.2 ?_
      show Steps p.tables e below (T17.setTop (mkF m 147 #[.val (.int p1), .val (.int p2), .val (.int p3), .val (.int (own_p p1)), .val (.int (own_at p2)), .val (.int (own_fill p3)), .val (.ref b9), .val (.int (2 : Int32)), .val (.int (own_ld p1)), .val (.int (own_tr p1)), .val (.int (1 : Int32)), .unset, .unset, .unset] [])) _
      refine XS.iload X17.here hx rfl (hb hby at_147) rfl ?_
      show Steps p.tables e below (T17.setTop (mkF m 149 #[.val (.int p1), .val (.int p2), .val (.int p3), .val (.int (own_p p1)), .val (.int (own_at p2)), .val (.int (own_fill p3)), .val (.ref b9), .val (.int (2 : Int32)), .val (.int (own_ld p1)), .val (.int (own_tr p1)), .val (.int (1 : Int32)), .unset, .unset, .unset] [(.int (own_tr p1))])) _
      refine XS.sipush X17.here hx rfl (hb hby at_149) ?_
      show Steps p.tables e below (T17.setTop (mkF m 152 #[.val (.int p1), .val (.int p2), .val (.int p3), .val (.int (own_p p1)), .val (.int (own_at p2)), .val (.int (own_fill p3)), .val (.ref b9), .val (.int (2 : Int32)), .val (.int (own_ld p1)), .val (.int (own_tr p1)), .val (.int (1 : Int32)), .unset, .unset, .unset] [(.int (128 : Int32)), (.int (own_tr p1))])) _
      refine XS.icmpNo X17.here hx rfl (hb hby at_152) rfl (flt (own_T2 p1 hc20)).1 ?_
      show Steps p.tables e below (T17.setTop (mkF m 155 #[.val (.int p1), .val (.int p2), .val (.int p3), .val (.int (own_p p1)), .val (.int (own_at p2)), .val (.int (own_fill p3)), .val (.ref b9), .val (.int (2 : Int32)), .val (.int (own_ld p1)), .val (.int (own_tr p1)), .val (.int (1 : Int32)), .unset, .unset, .unset] [])) _
      refine XS.iload X17.here hx rfl (hb hby at_155) rfl ?_
      show Steps p.tables e below (T17.setTop (mkF m 157 #[.val (.int p1), .val (.int p2), .val (.int p3), .val (.int (own_p p1)), .val (.int (own_at p2)), .val (.int (own_fill p3)), .val (.ref b9), .val (.int (2 : Int32)), .val (.int (own_ld p1)), .val (.int (own_tr p1)), .val (.int (1 : Int32)), .unset, .unset, .unset] [(.int (own_tr p1))])) _
      refine XS.sipush X17.here hx rfl (hb hby at_157) ?_
      show Steps p.tables e below (T17.setTop (mkF m 160 #[.val (.int p1), .val (.int p2), .val (.int p3), .val (.int (own_p p1)), .val (.int (own_at p2)), .val (.int (own_fill p3)), .val (.ref b9), .val (.int (2 : Int32)), .val (.int (own_ld p1)), .val (.int (own_tr p1)), .val (.int (1 : Int32)), .unset, .unset, .unset] [(.int (252 : Int32)), (.int (own_tr p1))])) _
      refine XS.icmpNo X17.here hx rfl (hb hby at_160) rfl (flt (own_T3 p1)).2.2.1 ?_
      show Steps p.tables e below (T17.setTop (mkF m 163 #[.val (.int p1), .val (.int p2), .val (.int p3), .val (.int (own_p p1)), .val (.int (own_at p2)), .val (.int (own_fill p3)), .val (.ref b9), .val (.int (2 : Int32)), .val (.int (own_ld p1)), .val (.int (own_tr p1)), .val (.int (1 : Int32)), .unset, .unset, .unset] [])) _
      refine XS.iconst X17.here hx rfl (hb hby at_163) ?_
      show Steps p.tables e below (T17.setTop (mkF m 164 #[.val (.int p1), .val (.int p2), .val (.int p3), .val (.int (own_p p1)), .val (.int (own_at p2)), .val (.int (own_fill p3)), .val (.ref b9), .val (.int (2 : Int32)), .val (.int (own_ld p1)), .val (.int (own_tr p1)), .val (.int (1 : Int32)), .unset, .unset, .unset] [(.int (1 : Int32))])) _
      refine XS.goto X17.here hx rfl (pc0 := 164) (pc' := 168) rfl (hb hby at_164) (by decide) (by decide) ?_
      show Steps p.tables e below (T17.setTop (mkF m 168 #[.val (.int p1), .val (.int p2), .val (.int p3), .val (.int (own_p p1)), .val (.int (own_at p2)), .val (.int (own_fill p3)), .val (.ref b9), .val (.int (2 : Int32)), .val (.int (own_ld p1)), .val (.int (own_tr p1)), .val (.int (1 : Int32)), .unset, .unset, .unset] [(.int (1 : Int32))])) _
      exact kst
    · refine XS.icmpYes X17.here hx rfl (pc0 := 144) (pc' := 163) rfl (hb hby at_144) rfl (flt hc20).2.2.2 (by decide) (by decide) ?_
      show Steps p.tables e below (T17.setTop (mkF m 163 #[.val (.int p1), .val (.int p2), .val (.int p3), .val (.int (own_p p1)), .val (.int (own_at p2)), .val (.int (own_fill p3)), .val (.ref b9), .val (.int (2 : Int32)), .val (.int (own_ld p1)), .val (.int (own_tr p1)), .val (.int (1 : Int32)), .unset, .unset, .unset] [])) _
      refine XS.iconst X17.here hx rfl (hb hby at_163) ?_
      show Steps p.tables e below (T17.setTop (mkF m 164 #[.val (.int p1), .val (.int p2), .val (.int p3), .val (.int (own_p p1)), .val (.int (own_at p2)), .val (.int (own_fill p3)), .val (.ref b9), .val (.int (2 : Int32)), .val (.int (own_ld p1)), .val (.int (own_tr p1)), .val (.int (1 : Int32)), .unset, .unset, .unset] [(.int (1 : Int32))])) _
      refine XS.goto X17.here hx rfl (pc0 := 164) (pc' := 168) rfl (hb hby at_164) (by decide) (by decide) ?_
      show Steps p.tables e below (T17.setTop (mkF m 168 #[.val (.int p1), .val (.int p2), .val (.int p3), .val (.int (own_p p1)), .val (.int (own_at p2)), .val (.int (own_fill p3)), .val (.ref b9), .val (.int (2 : Int32)), .val (.int (own_ld p1)), .val (.int (own_tr p1)), .val (.int (1 : Int32)), .unset, .unset, .unset] [(.int (1 : Int32))])) _
      exact kst
  refine oS (u' := T17.setTop (mkF m 168 #[.val (.int p1), .val (.int p2), .val (.int p3), .val (.int (own_p p1)), .val (.int (own_at p2)), .val (.int (own_fill p3)), .val (.ref b9), .val (.int (2 : Int32)), .val (.int (own_ld p1)), .val (.int (own_tr p1)), .val (.int (1 : Int32)), .unset, .unset, .unset] [(.int (1 : Int32))])) km21 ?_
  refine oS (u' := T17.setTop (mkF m 170 #[.val (.int p1), .val (.int p2), .val (.int p3), .val (.int (own_p p1)), .val (.int (own_at p2)), .val (.int (own_fill p3)), .val (.ref b9), .val (.int (2 : Int32)), .val (.int (own_ld p1)), .val (.int (own_tr p1)), .val (.int (1 : Int32)), .val (.int (1 : Int32)), .unset, .unset] [])) (fun _ kst => XS.istore X17.here hx rfl (hb hby at_168) rfl (l' := #[.val (.int p1), .val (.int p2), .val (.int p3), .val (.int (own_p p1)), .val (.int (own_at p2)), .val (.int (own_fill p3)), .val (.ref b9), .val (.int (2 : Int32)), .val (.int (own_ld p1)), .val (.int (own_tr p1)), .val (.int (1 : Int32)), .val (.int (1 : Int32)), .unset, .unset]) rfl kst) ?_
  refine oS (u' := T17.setTop (mkF m 172 #[.val (.int p1), .val (.int p2), .val (.int p3), .val (.int (own_p p1)), .val (.int (own_at p2)), .val (.int (own_fill p3)), .val (.ref b9), .val (.int (2 : Int32)), .val (.int (own_ld p1)), .val (.int (own_tr p1)), .val (.int (1 : Int32)), .val (.int (1 : Int32)), .unset, .unset] [(.int (own_ld p1))])) (fun _ kst => XS.iload X17.here hx rfl (hb hby at_170) rfl kst) ?_
  refine oS (u' := T17.setTop (mkF m 174 #[.val (.int p1), .val (.int p2), .val (.int p3), .val (.int (own_p p1)), .val (.int (own_at p2)), .val (.int (own_fill p3)), .val (.ref b9), .val (.int (2 : Int32)), .val (.int (own_ld p1)), .val (.int (own_tr p1)), .val (.int (1 : Int32)), .val (.int (1 : Int32)), .unset, .unset] [(.int (own_ld p1)), (.int (own_ld p1))])) (fun _ kst => XS.iload X17.here hx rfl (hb hby at_172) rfl kst) ?_
  refine oS (u' := T17.setTop (mkF m 177 #[.val (.int p1), .val (.int p2), .val (.int p3), .val (.int (own_p p1)), .val (.int (own_at p2)), .val (.int (own_fill p3)), .val (.ref b9), .val (.int (2 : Int32)), .val (.int (own_ld p1)), .val (.int (own_tr p1)), .val (.int (1 : Int32)), .val (.int (1 : Int32)), .unset, .unset] [(.int (160 : Int32)), (.int (own_ld p1)), (.int (own_ld p1))])) (fun _ kst => XS.sipush X17.here hx rfl (hb hby at_174) kst) ?_
  have km23 : ∀ t, Steps p.tables e below (T17.setTop (mkF m 189 #[.val (.int p1), .val (.int p2), .val (.int p3), .val (.int (own_p p1)), .val (.int (own_at p2)), .val (.int (own_fill p3)), .val (.ref b9), .val (.int (2 : Int32)), .val (.int (own_ld p1)), .val (.int (own_tr p1)), .val (.int (1 : Int32)), .val (.int (1 : Int32)), .unset, .unset] [(.int (if (own_ld p1) < (160 : Int32) then (129 : Int32) else (193 : Int32))), (.int (own_ld p1))])) t → Steps p.tables e below (T17.setTop (mkF m 177 #[.val (.int p1), .val (.int p2), .val (.int p3), .val (.int (own_p p1)), .val (.int (own_at p2)), .val (.int (own_fill p3)), .val (.ref b9), .val (.int (2 : Int32)), .val (.int (own_ld p1)), .val (.int (own_tr p1)), .val (.int (1 : Int32)), .val (.int (1 : Int32)), .unset, .unset] [(.int (160 : Int32)), (.int (own_ld p1)), (.int (own_ld p1))])) t := by
    intro tgt kst
    by_cases hc22 : (own_ld p1) < (160 : Int32)
    · rw [show (if (own_ld p1) < (160 : Int32) then (129 : Int32) else (193 : Int32)) = (129 : Int32) from if_pos hc22] at kst
      refine XS.icmpNo X17.here hx rfl (hb hby at_177) rfl (tlt hc22).2.1 ?_
      show Steps p.tables e below (T17.setTop (mkF m 180 #[.val (.int p1), .val (.int p2), .val (.int p3), .val (.int (own_p p1)), .val (.int (own_at p2)), .val (.int (own_fill p3)), .val (.ref b9), .val (.int (2 : Int32)), .val (.int (own_ld p1)), .val (.int (own_tr p1)), .val (.int (1 : Int32)), .val (.int (1 : Int32)), .unset, .unset] [(.int (own_ld p1))])) _
      refine XS.sipush X17.here hx rfl (hb hby at_180) ?_
      show Steps p.tables e below (T17.setTop (mkF m 183 #[.val (.int p1), .val (.int p2), .val (.int p3), .val (.int (own_p p1)), .val (.int (own_at p2)), .val (.int (own_fill p3)), .val (.ref b9), .val (.int (2 : Int32)), .val (.int (own_ld p1)), .val (.int (own_tr p1)), .val (.int (1 : Int32)), .val (.int (1 : Int32)), .unset, .unset] [(.int (129 : Int32)), (.int (own_ld p1))])) _
      refine XS.goto X17.here hx rfl (pc0 := 183) (pc' := 189) rfl (hb hby at_183) (by decide) (by decide) ?_
      show Steps p.tables e below (T17.setTop (mkF m 189 #[.val (.int p1), .val (.int p2), .val (.int p3), .val (.int (own_p p1)), .val (.int (own_at p2)), .val (.int (own_fill p3)), .val (.ref b9), .val (.int (2 : Int32)), .val (.int (own_ld p1)), .val (.int (own_tr p1)), .val (.int (1 : Int32)), .val (.int (1 : Int32)), .unset, .unset] [(.int (129 : Int32)), (.int (own_ld p1))])) _
      exact kst
    · rw [show (if (own_ld p1) < (160 : Int32) then (129 : Int32) else (193 : Int32)) = (193 : Int32) from if_neg hc22] at kst
      refine XS.icmpYes X17.here hx rfl (pc0 := 177) (pc' := 186) rfl (hb hby at_177) rfl (flt hc22).2.1 (by decide) (by decide) ?_
      show Steps p.tables e below (T17.setTop (mkF m 186 #[.val (.int p1), .val (.int p2), .val (.int p3), .val (.int (own_p p1)), .val (.int (own_at p2)), .val (.int (own_fill p3)), .val (.ref b9), .val (.int (2 : Int32)), .val (.int (own_ld p1)), .val (.int (own_tr p1)), .val (.int (1 : Int32)), .val (.int (1 : Int32)), .unset, .unset] [(.int (own_ld p1))])) _
      refine XS.sipush X17.here hx rfl (hb hby at_186) ?_
      show Steps p.tables e below (T17.setTop (mkF m 189 #[.val (.int p1), .val (.int p2), .val (.int p3), .val (.int (own_p p1)), .val (.int (own_at p2)), .val (.int (own_fill p3)), .val (.ref b9), .val (.int (2 : Int32)), .val (.int (own_ld p1)), .val (.int (own_tr p1)), .val (.int (1 : Int32)), .val (.int (1 : Int32)), .unset, .unset] [(.int (193 : Int32)), (.int (own_ld p1))])) _
      exact kst
  refine oS (u' := T17.setTop (mkF m 189 #[.val (.int p1), .val (.int p2), .val (.int p3), .val (.int (own_p p1)), .val (.int (own_at p2)), .val (.int (own_fill p3)), .val (.ref b9), .val (.int (2 : Int32)), .val (.int (own_ld p1)), .val (.int (own_tr p1)), .val (.int (1 : Int32)), .val (.int (1 : Int32)), .unset, .unset] [(.int (if (own_ld p1) < (160 : Int32) then (129 : Int32) else (193 : Int32))), (.int (own_ld p1))])) km23 ?_
  refine oS (u' := T17.setTop (mkF m 190 #[.val (.int p1), .val (.int p2), .val (.int p3), .val (.int (own_p p1)), .val (.int (own_at p2)), .val (.int (own_fill p3)), .val (.ref b9), .val (.int (2 : Int32)), .val (.int (own_ld p1)), .val (.int (own_tr p1)), .val (.int (1 : Int32)), .val (.int (1 : Int32)), .unset, .unset] [(.int ((own_ld p1) - (if (own_ld p1) < (160 : Int32) then (129 : Int32) else (193 : Int32))))])) (fun _ kst => XS.isub X17.here hx rfl (hb hby at_189) rfl kst) ?_
  refine oS (u' := T17.setTop (mkF m 193 #[.val (.int p1), .val (.int p2), .val (.int p3), .val (.int (own_p p1)), .val (.int (own_at p2)), .val (.int (own_fill p3)), .val (.ref b9), .val (.int (2 : Int32)), .val (.int (own_ld p1)), .val (.int (own_tr p1)), .val (.int (1 : Int32)), .val (.int (1 : Int32)), .unset, .unset] [(.int (188 : Int32)), (.int ((own_ld p1) - (if (own_ld p1) < (160 : Int32) then (129 : Int32) else (193 : Int32))))])) (fun _ kst => XS.sipush X17.here hx rfl (hb hby at_190) kst) ?_
  refine oS (u' := T17.setTop (mkF m 194 #[.val (.int p1), .val (.int p2), .val (.int p3), .val (.int (own_p p1)), .val (.int (own_at p2)), .val (.int (own_fill p3)), .val (.ref b9), .val (.int (2 : Int32)), .val (.int (own_ld p1)), .val (.int (own_tr p1)), .val (.int (1 : Int32)), .val (.int (1 : Int32)), .unset, .unset] [(.int (((own_ld p1) - (if (own_ld p1) < (160 : Int32) then (129 : Int32) else (193 : Int32))) * (188 : Int32)))])) (fun _ kst => XS.imul X17.here hx rfl (hb hby at_193) rfl kst) ?_
  refine oS (u' := T17.setTop (mkF m 196 #[.val (.int p1), .val (.int p2), .val (.int p3), .val (.int (own_p p1)), .val (.int (own_at p2)), .val (.int (own_fill p3)), .val (.ref b9), .val (.int (2 : Int32)), .val (.int (own_ld p1)), .val (.int (own_tr p1)), .val (.int (1 : Int32)), .val (.int (1 : Int32)), .unset, .unset] [(.int (own_tr p1)), (.int (((own_ld p1) - (if (own_ld p1) < (160 : Int32) then (129 : Int32) else (193 : Int32))) * (188 : Int32)))])) (fun _ kst => XS.iload X17.here hx rfl (hb hby at_194) rfl kst) ?_
  refine oS (u' := T17.setTop (mkF m 197 #[.val (.int p1), .val (.int p2), .val (.int p3), .val (.int (own_p p1)), .val (.int (own_at p2)), .val (.int (own_fill p3)), .val (.ref b9), .val (.int (2 : Int32)), .val (.int (own_ld p1)), .val (.int (own_tr p1)), .val (.int (1 : Int32)), .val (.int (1 : Int32)), .unset, .unset] [(.int ((((own_ld p1) - (if (own_ld p1) < (160 : Int32) then (129 : Int32) else (193 : Int32))) * (188 : Int32)) + (own_tr p1)))])) (fun _ kst => XS.iadd X17.here hx rfl (hb hby at_196) rfl kst) ?_
  refine oS (u' := T17.setTop (mkF m 199 #[.val (.int p1), .val (.int p2), .val (.int p3), .val (.int (own_p p1)), .val (.int (own_at p2)), .val (.int (own_fill p3)), .val (.ref b9), .val (.int (2 : Int32)), .val (.int (own_ld p1)), .val (.int (own_tr p1)), .val (.int (1 : Int32)), .val (.int (1 : Int32)), .unset, .unset] [(.int (own_tr p1)), (.int ((((own_ld p1) - (if (own_ld p1) < (160 : Int32) then (129 : Int32) else (193 : Int32))) * (188 : Int32)) + (own_tr p1)))])) (fun _ kst => XS.iload X17.here hx rfl (hb hby at_197) rfl kst) ?_
  refine oS (u' := T17.setTop (mkF m 201 #[.val (.int p1), .val (.int p2), .val (.int p3), .val (.int (own_p p1)), .val (.int (own_at p2)), .val (.int (own_fill p3)), .val (.ref b9), .val (.int (2 : Int32)), .val (.int (own_ld p1)), .val (.int (own_tr p1)), .val (.int (1 : Int32)), .val (.int (1 : Int32)), .unset, .unset] [(.int (127 : Int32)), (.int (own_tr p1)), (.int ((((own_ld p1) - (if (own_ld p1) < (160 : Int32) then (129 : Int32) else (193 : Int32))) * (188 : Int32)) + (own_tr p1)))])) (fun _ kst => XS.bipush X17.here hx rfl (hb hby at_199) kst) ?_
  have km25 : ∀ t, Steps p.tables e below (T17.setTop (mkF m 211 #[.val (.int p1), .val (.int p2), .val (.int p3), .val (.int (own_p p1)), .val (.int (own_at p2)), .val (.int (own_fill p3)), .val (.ref b9), .val (.int (2 : Int32)), .val (.int (own_ld p1)), .val (.int (own_tr p1)), .val (.int (1 : Int32)), .val (.int (1 : Int32)), .unset, .unset] [(.int (if (own_tr p1) < (127 : Int32) then (64 : Int32) else (65 : Int32))), (.int ((((own_ld p1) - (if (own_ld p1) < (160 : Int32) then (129 : Int32) else (193 : Int32))) * (188 : Int32)) + (own_tr p1)))])) t → Steps p.tables e below (T17.setTop (mkF m 201 #[.val (.int p1), .val (.int p2), .val (.int p3), .val (.int (own_p p1)), .val (.int (own_at p2)), .val (.int (own_fill p3)), .val (.ref b9), .val (.int (2 : Int32)), .val (.int (own_ld p1)), .val (.int (own_tr p1)), .val (.int (1 : Int32)), .val (.int (1 : Int32)), .unset, .unset] [(.int (127 : Int32)), (.int (own_tr p1)), (.int ((((own_ld p1) - (if (own_ld p1) < (160 : Int32) then (129 : Int32) else (193 : Int32))) * (188 : Int32)) + (own_tr p1)))])) t := by
    intro tgt kst
    by_cases hc24 : (own_tr p1) < (127 : Int32)
    · rw [show (if (own_tr p1) < (127 : Int32) then (64 : Int32) else (65 : Int32)) = (64 : Int32) from if_pos hc24] at kst
      refine XS.icmpNo X17.here hx rfl (hb hby at_201) rfl (tlt hc24).2.1 ?_
      show Steps p.tables e below (T17.setTop (mkF m 204 #[.val (.int p1), .val (.int p2), .val (.int p3), .val (.int (own_p p1)), .val (.int (own_at p2)), .val (.int (own_fill p3)), .val (.ref b9), .val (.int (2 : Int32)), .val (.int (own_ld p1)), .val (.int (own_tr p1)), .val (.int (1 : Int32)), .val (.int (1 : Int32)), .unset, .unset] [(.int ((((own_ld p1) - (if (own_ld p1) < (160 : Int32) then (129 : Int32) else (193 : Int32))) * (188 : Int32)) + (own_tr p1)))])) _
      refine XS.bipush X17.here hx rfl (hb hby at_204) ?_
      show Steps p.tables e below (T17.setTop (mkF m 206 #[.val (.int p1), .val (.int p2), .val (.int p3), .val (.int (own_p p1)), .val (.int (own_at p2)), .val (.int (own_fill p3)), .val (.ref b9), .val (.int (2 : Int32)), .val (.int (own_ld p1)), .val (.int (own_tr p1)), .val (.int (1 : Int32)), .val (.int (1 : Int32)), .unset, .unset] [(.int (64 : Int32)), (.int ((((own_ld p1) - (if (own_ld p1) < (160 : Int32) then (129 : Int32) else (193 : Int32))) * (188 : Int32)) + (own_tr p1)))])) _
      refine XS.goto X17.here hx rfl (pc0 := 206) (pc' := 211) rfl (hb hby at_206) (by decide) (by decide) ?_
      show Steps p.tables e below (T17.setTop (mkF m 211 #[.val (.int p1), .val (.int p2), .val (.int p3), .val (.int (own_p p1)), .val (.int (own_at p2)), .val (.int (own_fill p3)), .val (.ref b9), .val (.int (2 : Int32)), .val (.int (own_ld p1)), .val (.int (own_tr p1)), .val (.int (1 : Int32)), .val (.int (1 : Int32)), .unset, .unset] [(.int (64 : Int32)), (.int ((((own_ld p1) - (if (own_ld p1) < (160 : Int32) then (129 : Int32) else (193 : Int32))) * (188 : Int32)) + (own_tr p1)))])) _
      exact kst
    · rw [show (if (own_tr p1) < (127 : Int32) then (64 : Int32) else (65 : Int32)) = (65 : Int32) from if_neg hc24] at kst
      refine XS.icmpYes X17.here hx rfl (pc0 := 201) (pc' := 209) rfl (hb hby at_201) rfl (flt hc24).2.1 (by decide) (by decide) ?_
      show Steps p.tables e below (T17.setTop (mkF m 209 #[.val (.int p1), .val (.int p2), .val (.int p3), .val (.int (own_p p1)), .val (.int (own_at p2)), .val (.int (own_fill p3)), .val (.ref b9), .val (.int (2 : Int32)), .val (.int (own_ld p1)), .val (.int (own_tr p1)), .val (.int (1 : Int32)), .val (.int (1 : Int32)), .unset, .unset] [(.int ((((own_ld p1) - (if (own_ld p1) < (160 : Int32) then (129 : Int32) else (193 : Int32))) * (188 : Int32)) + (own_tr p1)))])) _
      refine XS.bipush X17.here hx rfl (hb hby at_209) ?_
      show Steps p.tables e below (T17.setTop (mkF m 211 #[.val (.int p1), .val (.int p2), .val (.int p3), .val (.int (own_p p1)), .val (.int (own_at p2)), .val (.int (own_fill p3)), .val (.ref b9), .val (.int (2 : Int32)), .val (.int (own_ld p1)), .val (.int (own_tr p1)), .val (.int (1 : Int32)), .val (.int (1 : Int32)), .unset, .unset] [(.int (65 : Int32)), (.int ((((own_ld p1) - (if (own_ld p1) < (160 : Int32) then (129 : Int32) else (193 : Int32))) * (188 : Int32)) + (own_tr p1)))])) _
      exact kst
  refine oS (u' := T17.setTop (mkF m 211 #[.val (.int p1), .val (.int p2), .val (.int p3), .val (.int (own_p p1)), .val (.int (own_at p2)), .val (.int (own_fill p3)), .val (.ref b9), .val (.int (2 : Int32)), .val (.int (own_ld p1)), .val (.int (own_tr p1)), .val (.int (1 : Int32)), .val (.int (1 : Int32)), .unset, .unset] [(.int (if (own_tr p1) < (127 : Int32) then (64 : Int32) else (65 : Int32))), (.int ((((own_ld p1) - (if (own_ld p1) < (160 : Int32) then (129 : Int32) else (193 : Int32))) * (188 : Int32)) + (own_tr p1)))])) km25 ?_
  refine oS (u' := T17.setTop (mkF m 212 #[.val (.int p1), .val (.int p2), .val (.int p3), .val (.int (own_p p1)), .val (.int (own_at p2)), .val (.int (own_fill p3)), .val (.ref b9), .val (.int (2 : Int32)), .val (.int (own_ld p1)), .val (.int (own_tr p1)), .val (.int (1 : Int32)), .val (.int (1 : Int32)), .unset, .unset] [(.int (((((own_ld p1) - (if (own_ld p1) < (160 : Int32) then (129 : Int32) else (193 : Int32))) * (188 : Int32)) + (own_tr p1)) - (if (own_tr p1) < (127 : Int32) then (64 : Int32) else (65 : Int32))))])) (fun _ kst => XS.isub X17.here hx rfl (hb hby at_211) rfl kst) ?_
  refine oS (u' := T17.setTop (mkF m 214 #[.val (.int p1), .val (.int p2), .val (.int p3), .val (.int (own_p p1)), .val (.int (own_at p2)), .val (.int (own_fill p3)), .val (.ref b9), .val (.int (2 : Int32)), .val (.int (own_ld p1)), .val (.int (own_tr p1)), .val (.int (1 : Int32)), .val (.int (1 : Int32)), .val (.int (((((own_ld p1) - (if (own_ld p1) < (160 : Int32) then (129 : Int32) else (193 : Int32))) * (188 : Int32)) + (own_tr p1)) - (if (own_tr p1) < (127 : Int32) then (64 : Int32) else (65 : Int32)))), .unset] [])) (fun _ kst => XS.istore X17.here hx rfl (hb hby at_212) rfl (l' := #[.val (.int p1), .val (.int p2), .val (.int p3), .val (.int (own_p p1)), .val (.int (own_at p2)), .val (.int (own_fill p3)), .val (.ref b9), .val (.int (2 : Int32)), .val (.int (own_ld p1)), .val (.int (own_tr p1)), .val (.int (1 : Int32)), .val (.int (1 : Int32)), .val (.int (((((own_ld p1) - (if (own_ld p1) < (160 : Int32) then (129 : Int32) else (193 : Int32))) * (188 : Int32)) + (own_tr p1)) - (if (own_tr p1) < (127 : Int32) then (64 : Int32) else (65 : Int32)))), .unset]) rfl kst) ?_
  refine oS (u' := T17.setTop (mkF m 216 #[.val (.int p1), .val (.int p2), .val (.int p3), .val (.int (own_p p1)), .val (.int (own_at p2)), .val (.int (own_fill p3)), .val (.ref b9), .val (.int (2 : Int32)), .val (.int (own_ld p1)), .val (.int (own_tr p1)), .val (.int (1 : Int32)), .val (.int (1 : Int32)), .val (.int (((((own_ld p1) - (if (own_ld p1) < (160 : Int32) then (129 : Int32) else (193 : Int32))) * (188 : Int32)) + (own_tr p1)) - (if (own_tr p1) < (127 : Int32) then (64 : Int32) else (65 : Int32)))), .unset] [(.ref b9)])) (fun _ kst => XS.aload X17.here hx rfl (hb hby at_214) rfl rfl kst) ?_
  refine oS (u' := T17.setTop (mkF m 217 #[.val (.int p1), .val (.int p2), .val (.int p3), .val (.int (own_p p1)), .val (.int (own_at p2)), .val (.int (own_fill p3)), .val (.ref b9), .val (.int (2 : Int32)), .val (.int (own_ld p1)), .val (.int (own_tr p1)), .val (.int (1 : Int32)), .val (.int (1 : Int32)), .val (.int (((((own_ld p1) - (if (own_ld p1) < (160 : Int32) then (129 : Int32) else (193 : Int32))) * (188 : Int32)) + (own_tr p1)) - (if (own_tr p1) < (127 : Int32) then (64 : Int32) else (65 : Int32)))), .unset] [(.int (0 : Int32)), (.ref b9)])) (fun _ kst => XS.iconst X17.here hx rfl (hb hby at_216) kst) ?_
  refine oS (u' := T17.setTop (mkF m 219 #[.val (.int p1), .val (.int p2), .val (.int p3), .val (.int (own_p p1)), .val (.int (own_at p2)), .val (.int (own_fill p3)), .val (.ref b9), .val (.int (2 : Int32)), .val (.int (own_ld p1)), .val (.int (own_tr p1)), .val (.int (1 : Int32)), .val (.int (1 : Int32)), .val (.int (((((own_ld p1) - (if (own_ld p1) < (160 : Int32) then (129 : Int32) else (193 : Int32))) * (188 : Int32)) + (own_tr p1)) - (if (own_tr p1) < (127 : Int32) then (64 : Int32) else (65 : Int32)))), .unset] [(.int (own_at p2)), (.int (0 : Int32)), (.ref b9)])) (fun _ kst => XS.iload X17.here hx rfl (hb hby at_217) rfl kst) ?_
  refine oS (u' := T17.setTop (mkF m 221 #[.val (.int p1), .val (.int p2), .val (.int p3), .val (.int (own_p p1)), .val (.int (own_at p2)), .val (.int (own_fill p3)), .val (.ref b9), .val (.int (2 : Int32)), .val (.int (own_ld p1)), .val (.int (own_tr p1)), .val (.int (1 : Int32)), .val (.int (1 : Int32)), .val (.int (((((own_ld p1) - (if (own_ld p1) < (160 : Int32) then (129 : Int32) else (193 : Int32))) * (188 : Int32)) + (own_tr p1)) - (if (own_tr p1) < (127 : Int32) then (64 : Int32) else (65 : Int32)))), .unset] [(.int (own_fill p3)), (.int (own_at p2)), (.int (0 : Int32)), (.ref b9)])) (fun _ kst => XS.iload X17.here hx rfl (hb hby at_219) rfl kst) ?_
  obtain ⟨T26, X26, e26, st26⟩ := own_callSP X17 hx hZ (y := (⟨"com/example/untwist_forms/untwistforms/internal/ShiftJisWritePointerPinLaw", "untouched", "([BIIB)Z"⟩ : MethodName)) hown (hw _ (List.mem_of_getElem? (i := 6) rfl)) (hw _ (List.mem_of_getElem? (i := 7) rfl)) (hw _ (List.mem_of_getElem? (i := 9) rfl)) (hw _ (List.mem_of_getElem? (i := 8) rfl)) (by decide) rfl (W := 0) (own_rm_unt l Z a0 hw b9 (0 : Int32) (own_at p2) (own_fill p3) (own_g (own_fill p3) k (own_p p1)) 0 k T17.heap A17 (by decide) (by decide) hj (by omega) (fun h1 h2 => own_g_else h1 h2)) (by decide) (by decide) (g := (mkF m 221 #[.val (.int p1), .val (.int p2), .val (.int p3), .val (.int (own_p p1)), .val (.int (own_at p2)), .val (.int (own_fill p3)), .val (.ref b9), .val (.int (2 : Int32)), .val (.int (own_ld p1)), .val (.int (own_tr p1)), .val (.int (1 : Int32)), .val (.int (1 : Int32)), .val (.int (((((own_ld p1) - (if (own_ld p1) < (160 : Int32) then (129 : Int32) else (193 : Int32))) * (188 : Int32)) + (own_tr p1)) - (if (own_tr p1) < (127 : Int32) then (64 : Int32) else (65 : Int32)))), .unset] [(.int (own_fill p3)), (.int (own_at p2)), (.int (0 : Int32)), (.ref b9)])) rfl (by rw [hml]; rfl) (argsL := [(.ref b9), (.int (0 : Int32)), (.int (own_at p2)), (.int (own_fill p3))]) (rest := []) (lenOf own_pd1 rfl) rfl (by show 2 * 0 + _ ≤ _; exact Nat.le_of_eq rfl) (hb hby at_221) (by decide) (by decide)
  refine oS (u' := T26.setTop (mkF m 224 #[.val (.int p1), .val (.int p2), .val (.int p3), .val (.int (own_p p1)), .val (.int (own_at p2)), .val (.int (own_fill p3)), .val (.ref b9), .val (.int (2 : Int32)), .val (.int (own_ld p1)), .val (.int (own_tr p1)), .val (.int (1 : Int32)), .val (.int (1 : Int32)), .val (.int (((((own_ld p1) - (if (own_ld p1) < (160 : Int32) then (129 : Int32) else (193 : Int32))) * (188 : Int32)) + (own_tr p1)) - (if (own_tr p1) < (127 : Int32) then (64 : Int32) else (65 : Int32)))), .unset] [(.int (1 : Int32))])) st26 ?_
  refine oS (u' := T26.setTop (mkF m 227 #[.val (.int p1), .val (.int p2), .val (.int p3), .val (.int (own_p p1)), .val (.int (own_at p2)), .val (.int (own_fill p3)), .val (.ref b9), .val (.int (2 : Int32)), .val (.int (own_ld p1)), .val (.int (own_tr p1)), .val (.int (1 : Int32)), .val (.int (1 : Int32)), .val (.int (((((own_ld p1) - (if (own_ld p1) < (160 : Int32) then (129 : Int32) else (193 : Int32))) * (188 : Int32)) + (own_tr p1)) - (if (own_tr p1) < (127 : Int32) then (64 : Int32) else (65 : Int32)))), .unset] [])) (fun _ kst => XS.ifNo X26.here hx rfl (hb hby at_224) rfl ((if0 _ _).trans (feq (by decide : ¬ ((1 : Int32) = (0 : Int32)))).1) kst) ?_
  refine oS (u' := T26.setTop (mkF m 229 #[.val (.int p1), .val (.int p2), .val (.int p3), .val (.int (own_p p1)), .val (.int (own_at p2)), .val (.int (own_fill p3)), .val (.ref b9), .val (.int (2 : Int32)), .val (.int (own_ld p1)), .val (.int (own_tr p1)), .val (.int (1 : Int32)), .val (.int (1 : Int32)), .val (.int (((((own_ld p1) - (if (own_ld p1) < (160 : Int32) then (129 : Int32) else (193 : Int32))) * (188 : Int32)) + (own_tr p1)) - (if (own_tr p1) < (127 : Int32) then (64 : Int32) else (65 : Int32)))), .unset] [(.ref b9)])) (fun _ kst => XS.aload X26.here hx rfl (hb hby at_227) rfl rfl kst) ?_
  refine oS (u' := T26.setTop (mkF m 230 #[.val (.int p1), .val (.int p2), .val (.int p3), .val (.int (own_p p1)), .val (.int (own_at p2)), .val (.int (own_fill p3)), .val (.ref b9), .val (.int (2 : Int32)), .val (.int (own_ld p1)), .val (.int (own_tr p1)), .val (.int (1 : Int32)), .val (.int (1 : Int32)), .val (.int (((((own_ld p1) - (if (own_ld p1) < (160 : Int32) then (129 : Int32) else (193 : Int32))) * (188 : Int32)) + (own_tr p1)) - (if (own_tr p1) < (127 : Int32) then (64 : Int32) else (65 : Int32)))), .unset] [(.int (1 : Int32)), (.ref b9)])) (fun _ kst => XS.iconst X26.here hx rfl (hb hby at_229) kst) ?_
  refine oS (u' := T26.setTop (mkF m 232 #[.val (.int p1), .val (.int p2), .val (.int p3), .val (.int (own_p p1)), .val (.int (own_at p2)), .val (.int (own_fill p3)), .val (.ref b9), .val (.int (2 : Int32)), .val (.int (own_ld p1)), .val (.int (own_tr p1)), .val (.int (1 : Int32)), .val (.int (1 : Int32)), .val (.int (((((own_ld p1) - (if (own_ld p1) < (160 : Int32) then (129 : Int32) else (193 : Int32))) * (188 : Int32)) + (own_tr p1)) - (if (own_tr p1) < (127 : Int32) then (64 : Int32) else (65 : Int32)))), .unset] [(.int (own_at p2)), (.int (1 : Int32)), (.ref b9)])) (fun _ kst => XS.iload X26.here hx rfl (hb hby at_230) rfl kst) ?_
  refine oS (u' := T26.setTop (mkF m 234 #[.val (.int p1), .val (.int p2), .val (.int p3), .val (.int (own_p p1)), .val (.int (own_at p2)), .val (.int (own_fill p3)), .val (.ref b9), .val (.int (2 : Int32)), .val (.int (own_ld p1)), .val (.int (own_tr p1)), .val (.int (1 : Int32)), .val (.int (1 : Int32)), .val (.int (((((own_ld p1) - (if (own_ld p1) < (160 : Int32) then (129 : Int32) else (193 : Int32))) * (188 : Int32)) + (own_tr p1)) - (if (own_tr p1) < (127 : Int32) then (64 : Int32) else (65 : Int32)))), .unset] [(.int (own_fill p3)), (.int (own_at p2)), (.int (1 : Int32)), (.ref b9)])) (fun _ kst => XS.iload X26.here hx rfl (hb hby at_232) rfl kst) ?_
  obtain ⟨T27, X27, e27, st27⟩ := own_callSP X26 hx hZ (y := (⟨"com/example/untwist_forms/untwistforms/internal/ShiftJisWritePointerPinLaw", "untouched", "([BIIB)Z"⟩ : MethodName)) hown (hw _ (List.mem_of_getElem? (i := 6) rfl)) (hw _ (List.mem_of_getElem? (i := 7) rfl)) (hw _ (List.mem_of_getElem? (i := 9) rfl)) (hw _ (List.mem_of_getElem? (i := 8) rfl)) (by decide) e26 (W := 0) (own_rm_unt l Z a0 hw b9 (1 : Int32) (own_at p2) (own_fill p3) (own_g (own_fill p3) k (own_p p1)) 1 k T17.heap A17 (by decide) (by decide) hj (by omega) (fun h1 h2 => own_g_else h1 h2)) (by decide) (by decide) (g := (mkF m 234 #[.val (.int p1), .val (.int p2), .val (.int p3), .val (.int (own_p p1)), .val (.int (own_at p2)), .val (.int (own_fill p3)), .val (.ref b9), .val (.int (2 : Int32)), .val (.int (own_ld p1)), .val (.int (own_tr p1)), .val (.int (1 : Int32)), .val (.int (1 : Int32)), .val (.int (((((own_ld p1) - (if (own_ld p1) < (160 : Int32) then (129 : Int32) else (193 : Int32))) * (188 : Int32)) + (own_tr p1)) - (if (own_tr p1) < (127 : Int32) then (64 : Int32) else (65 : Int32)))), .unset] [(.int (own_fill p3)), (.int (own_at p2)), (.int (1 : Int32)), (.ref b9)])) rfl (by rw [hml]; rfl) (argsL := [(.ref b9), (.int (1 : Int32)), (.int (own_at p2)), (.int (own_fill p3))]) (rest := []) (lenOf own_pd1 rfl) rfl (by show 2 * 0 + _ ≤ _; exact Nat.le_of_eq rfl) (hb hby at_234) (by decide) (by decide)
  refine oS (u' := T27.setTop (mkF m 237 #[.val (.int p1), .val (.int p2), .val (.int p3), .val (.int (own_p p1)), .val (.int (own_at p2)), .val (.int (own_fill p3)), .val (.ref b9), .val (.int (2 : Int32)), .val (.int (own_ld p1)), .val (.int (own_tr p1)), .val (.int (1 : Int32)), .val (.int (1 : Int32)), .val (.int (((((own_ld p1) - (if (own_ld p1) < (160 : Int32) then (129 : Int32) else (193 : Int32))) * (188 : Int32)) + (own_tr p1)) - (if (own_tr p1) < (127 : Int32) then (64 : Int32) else (65 : Int32)))), .unset] [(.int (1 : Int32))])) st27 ?_
  refine oS (u' := T27.setTop (mkF m 240 #[.val (.int p1), .val (.int p2), .val (.int p3), .val (.int (own_p p1)), .val (.int (own_at p2)), .val (.int (own_fill p3)), .val (.ref b9), .val (.int (2 : Int32)), .val (.int (own_ld p1)), .val (.int (own_tr p1)), .val (.int (1 : Int32)), .val (.int (1 : Int32)), .val (.int (((((own_ld p1) - (if (own_ld p1) < (160 : Int32) then (129 : Int32) else (193 : Int32))) * (188 : Int32)) + (own_tr p1)) - (if (own_tr p1) < (127 : Int32) then (64 : Int32) else (65 : Int32)))), .unset] [])) (fun _ kst => XS.ifNo X27.here hx rfl (hb hby at_237) rfl ((if0 _ _).trans (feq (by decide : ¬ ((1 : Int32) = (0 : Int32)))).1) kst) ?_
  refine oS (u' := T27.setTop (mkF m 242 #[.val (.int p1), .val (.int p2), .val (.int p3), .val (.int (own_p p1)), .val (.int (own_at p2)), .val (.int (own_fill p3)), .val (.ref b9), .val (.int (2 : Int32)), .val (.int (own_ld p1)), .val (.int (own_tr p1)), .val (.int (1 : Int32)), .val (.int (1 : Int32)), .val (.int (((((own_ld p1) - (if (own_ld p1) < (160 : Int32) then (129 : Int32) else (193 : Int32))) * (188 : Int32)) + (own_tr p1)) - (if (own_tr p1) < (127 : Int32) then (64 : Int32) else (65 : Int32)))), .unset] [(.ref b9)])) (fun _ kst => XS.aload X27.here hx rfl (hb hby at_240) rfl rfl kst) ?_
  refine oS (u' := T27.setTop (mkF m 243 #[.val (.int p1), .val (.int p2), .val (.int p3), .val (.int (own_p p1)), .val (.int (own_at p2)), .val (.int (own_fill p3)), .val (.ref b9), .val (.int (2 : Int32)), .val (.int (own_ld p1)), .val (.int (own_tr p1)), .val (.int (1 : Int32)), .val (.int (1 : Int32)), .val (.int (((((own_ld p1) - (if (own_ld p1) < (160 : Int32) then (129 : Int32) else (193 : Int32))) * (188 : Int32)) + (own_tr p1)) - (if (own_tr p1) < (127 : Int32) then (64 : Int32) else (65 : Int32)))), .unset] [(.int (2 : Int32)), (.ref b9)])) (fun _ kst => XS.iconst X27.here hx rfl (hb hby at_242) kst) ?_
  refine oS (u' := T27.setTop (mkF m 245 #[.val (.int p1), .val (.int p2), .val (.int p3), .val (.int (own_p p1)), .val (.int (own_at p2)), .val (.int (own_fill p3)), .val (.ref b9), .val (.int (2 : Int32)), .val (.int (own_ld p1)), .val (.int (own_tr p1)), .val (.int (1 : Int32)), .val (.int (1 : Int32)), .val (.int (((((own_ld p1) - (if (own_ld p1) < (160 : Int32) then (129 : Int32) else (193 : Int32))) * (188 : Int32)) + (own_tr p1)) - (if (own_tr p1) < (127 : Int32) then (64 : Int32) else (65 : Int32)))), .unset] [(.int (own_at p2)), (.int (2 : Int32)), (.ref b9)])) (fun _ kst => XS.iload X27.here hx rfl (hb hby at_243) rfl kst) ?_
  refine oS (u' := T27.setTop (mkF m 247 #[.val (.int p1), .val (.int p2), .val (.int p3), .val (.int (own_p p1)), .val (.int (own_at p2)), .val (.int (own_fill p3)), .val (.ref b9), .val (.int (2 : Int32)), .val (.int (own_ld p1)), .val (.int (own_tr p1)), .val (.int (1 : Int32)), .val (.int (1 : Int32)), .val (.int (((((own_ld p1) - (if (own_ld p1) < (160 : Int32) then (129 : Int32) else (193 : Int32))) * (188 : Int32)) + (own_tr p1)) - (if (own_tr p1) < (127 : Int32) then (64 : Int32) else (65 : Int32)))), .unset] [(.int (own_fill p3)), (.int (own_at p2)), (.int (2 : Int32)), (.ref b9)])) (fun _ kst => XS.iload X27.here hx rfl (hb hby at_245) rfl kst) ?_
  obtain ⟨T28, X28, e28, st28⟩ := own_callSP X27 hx hZ (y := (⟨"com/example/untwist_forms/untwistforms/internal/ShiftJisWritePointerPinLaw", "untouched", "([BIIB)Z"⟩ : MethodName)) hown (hw _ (List.mem_of_getElem? (i := 6) rfl)) (hw _ (List.mem_of_getElem? (i := 7) rfl)) (hw _ (List.mem_of_getElem? (i := 9) rfl)) (hw _ (List.mem_of_getElem? (i := 8) rfl)) (by decide) e27 (W := 0) (own_rm_unt l Z a0 hw b9 (2 : Int32) (own_at p2) (own_fill p3) (own_g (own_fill p3) k (own_p p1)) 2 k T17.heap A17 (by decide) (by decide) hj (by omega) (fun h1 h2 => own_g_else h1 h2)) (by decide) (by decide) (g := (mkF m 247 #[.val (.int p1), .val (.int p2), .val (.int p3), .val (.int (own_p p1)), .val (.int (own_at p2)), .val (.int (own_fill p3)), .val (.ref b9), .val (.int (2 : Int32)), .val (.int (own_ld p1)), .val (.int (own_tr p1)), .val (.int (1 : Int32)), .val (.int (1 : Int32)), .val (.int (((((own_ld p1) - (if (own_ld p1) < (160 : Int32) then (129 : Int32) else (193 : Int32))) * (188 : Int32)) + (own_tr p1)) - (if (own_tr p1) < (127 : Int32) then (64 : Int32) else (65 : Int32)))), .unset] [(.int (own_fill p3)), (.int (own_at p2)), (.int (2 : Int32)), (.ref b9)])) rfl (by rw [hml]; rfl) (argsL := [(.ref b9), (.int (2 : Int32)), (.int (own_at p2)), (.int (own_fill p3))]) (rest := []) (lenOf own_pd1 rfl) rfl (by show 2 * 0 + _ ≤ _; exact Nat.le_of_eq rfl) (hb hby at_247) (by decide) (by decide)
  refine oS (u' := T28.setTop (mkF m 250 #[.val (.int p1), .val (.int p2), .val (.int p3), .val (.int (own_p p1)), .val (.int (own_at p2)), .val (.int (own_fill p3)), .val (.ref b9), .val (.int (2 : Int32)), .val (.int (own_ld p1)), .val (.int (own_tr p1)), .val (.int (1 : Int32)), .val (.int (1 : Int32)), .val (.int (((((own_ld p1) - (if (own_ld p1) < (160 : Int32) then (129 : Int32) else (193 : Int32))) * (188 : Int32)) + (own_tr p1)) - (if (own_tr p1) < (127 : Int32) then (64 : Int32) else (65 : Int32)))), .unset] [(.int (1 : Int32))])) st28 ?_
  refine oS (u' := T28.setTop (mkF m 253 #[.val (.int p1), .val (.int p2), .val (.int p3), .val (.int (own_p p1)), .val (.int (own_at p2)), .val (.int (own_fill p3)), .val (.ref b9), .val (.int (2 : Int32)), .val (.int (own_ld p1)), .val (.int (own_tr p1)), .val (.int (1 : Int32)), .val (.int (1 : Int32)), .val (.int (((((own_ld p1) - (if (own_ld p1) < (160 : Int32) then (129 : Int32) else (193 : Int32))) * (188 : Int32)) + (own_tr p1)) - (if (own_tr p1) < (127 : Int32) then (64 : Int32) else (65 : Int32)))), .unset] [])) (fun _ kst => XS.ifNo X28.here hx rfl (hb hby at_250) rfl ((if0 _ _).trans (feq (by decide : ¬ ((1 : Int32) = (0 : Int32)))).1) kst) ?_
  refine oS (u' := T28.setTop (mkF m 255 #[.val (.int p1), .val (.int p2), .val (.int p3), .val (.int (own_p p1)), .val (.int (own_at p2)), .val (.int (own_fill p3)), .val (.ref b9), .val (.int (2 : Int32)), .val (.int (own_ld p1)), .val (.int (own_tr p1)), .val (.int (1 : Int32)), .val (.int (1 : Int32)), .val (.int (((((own_ld p1) - (if (own_ld p1) < (160 : Int32) then (129 : Int32) else (193 : Int32))) * (188 : Int32)) + (own_tr p1)) - (if (own_tr p1) < (127 : Int32) then (64 : Int32) else (65 : Int32)))), .unset] [(.ref b9)])) (fun _ kst => XS.aload X28.here hx rfl (hb hby at_253) rfl rfl kst) ?_
  refine oS (u' := T28.setTop (mkF m 256 #[.val (.int p1), .val (.int p2), .val (.int p3), .val (.int (own_p p1)), .val (.int (own_at p2)), .val (.int (own_fill p3)), .val (.ref b9), .val (.int (2 : Int32)), .val (.int (own_ld p1)), .val (.int (own_tr p1)), .val (.int (1 : Int32)), .val (.int (1 : Int32)), .val (.int (((((own_ld p1) - (if (own_ld p1) < (160 : Int32) then (129 : Int32) else (193 : Int32))) * (188 : Int32)) + (own_tr p1)) - (if (own_tr p1) < (127 : Int32) then (64 : Int32) else (65 : Int32)))), .unset] [(.int (3 : Int32)), (.ref b9)])) (fun _ kst => XS.iconst X28.here hx rfl (hb hby at_255) kst) ?_
  refine oS (u' := T28.setTop (mkF m 258 #[.val (.int p1), .val (.int p2), .val (.int p3), .val (.int (own_p p1)), .val (.int (own_at p2)), .val (.int (own_fill p3)), .val (.ref b9), .val (.int (2 : Int32)), .val (.int (own_ld p1)), .val (.int (own_tr p1)), .val (.int (1 : Int32)), .val (.int (1 : Int32)), .val (.int (((((own_ld p1) - (if (own_ld p1) < (160 : Int32) then (129 : Int32) else (193 : Int32))) * (188 : Int32)) + (own_tr p1)) - (if (own_tr p1) < (127 : Int32) then (64 : Int32) else (65 : Int32)))), .unset] [(.int (own_at p2)), (.int (3 : Int32)), (.ref b9)])) (fun _ kst => XS.iload X28.here hx rfl (hb hby at_256) rfl kst) ?_
  refine oS (u' := T28.setTop (mkF m 260 #[.val (.int p1), .val (.int p2), .val (.int p3), .val (.int (own_p p1)), .val (.int (own_at p2)), .val (.int (own_fill p3)), .val (.ref b9), .val (.int (2 : Int32)), .val (.int (own_ld p1)), .val (.int (own_tr p1)), .val (.int (1 : Int32)), .val (.int (1 : Int32)), .val (.int (((((own_ld p1) - (if (own_ld p1) < (160 : Int32) then (129 : Int32) else (193 : Int32))) * (188 : Int32)) + (own_tr p1)) - (if (own_tr p1) < (127 : Int32) then (64 : Int32) else (65 : Int32)))), .unset] [(.int (own_fill p3)), (.int (own_at p2)), (.int (3 : Int32)), (.ref b9)])) (fun _ kst => XS.iload X28.here hx rfl (hb hby at_258) rfl kst) ?_
  obtain ⟨T29, X29, e29, st29⟩ := own_callSP X28 hx hZ (y := (⟨"com/example/untwist_forms/untwistforms/internal/ShiftJisWritePointerPinLaw", "untouched", "([BIIB)Z"⟩ : MethodName)) hown (hw _ (List.mem_of_getElem? (i := 6) rfl)) (hw _ (List.mem_of_getElem? (i := 7) rfl)) (hw _ (List.mem_of_getElem? (i := 9) rfl)) (hw _ (List.mem_of_getElem? (i := 8) rfl)) (by decide) e28 (W := 0) (own_rm_unt l Z a0 hw b9 (3 : Int32) (own_at p2) (own_fill p3) (own_g (own_fill p3) k (own_p p1)) 3 k T17.heap A17 (by decide) (by decide) hj (by omega) (fun h1 h2 => own_g_else h1 h2)) (by decide) (by decide) (g := (mkF m 260 #[.val (.int p1), .val (.int p2), .val (.int p3), .val (.int (own_p p1)), .val (.int (own_at p2)), .val (.int (own_fill p3)), .val (.ref b9), .val (.int (2 : Int32)), .val (.int (own_ld p1)), .val (.int (own_tr p1)), .val (.int (1 : Int32)), .val (.int (1 : Int32)), .val (.int (((((own_ld p1) - (if (own_ld p1) < (160 : Int32) then (129 : Int32) else (193 : Int32))) * (188 : Int32)) + (own_tr p1)) - (if (own_tr p1) < (127 : Int32) then (64 : Int32) else (65 : Int32)))), .unset] [(.int (own_fill p3)), (.int (own_at p2)), (.int (3 : Int32)), (.ref b9)])) rfl (by rw [hml]; rfl) (argsL := [(.ref b9), (.int (3 : Int32)), (.int (own_at p2)), (.int (own_fill p3))]) (rest := []) (lenOf own_pd1 rfl) rfl (by show 2 * 0 + _ ≤ _; exact Nat.le_of_eq rfl) (hb hby at_260) (by decide) (by decide)
  refine oS (u' := T29.setTop (mkF m 263 #[.val (.int p1), .val (.int p2), .val (.int p3), .val (.int (own_p p1)), .val (.int (own_at p2)), .val (.int (own_fill p3)), .val (.ref b9), .val (.int (2 : Int32)), .val (.int (own_ld p1)), .val (.int (own_tr p1)), .val (.int (1 : Int32)), .val (.int (1 : Int32)), .val (.int (((((own_ld p1) - (if (own_ld p1) < (160 : Int32) then (129 : Int32) else (193 : Int32))) * (188 : Int32)) + (own_tr p1)) - (if (own_tr p1) < (127 : Int32) then (64 : Int32) else (65 : Int32)))), .unset] [(.int (1 : Int32))])) st29 ?_
  refine oS (u' := T29.setTop (mkF m 266 #[.val (.int p1), .val (.int p2), .val (.int p3), .val (.int (own_p p1)), .val (.int (own_at p2)), .val (.int (own_fill p3)), .val (.ref b9), .val (.int (2 : Int32)), .val (.int (own_ld p1)), .val (.int (own_tr p1)), .val (.int (1 : Int32)), .val (.int (1 : Int32)), .val (.int (((((own_ld p1) - (if (own_ld p1) < (160 : Int32) then (129 : Int32) else (193 : Int32))) * (188 : Int32)) + (own_tr p1)) - (if (own_tr p1) < (127 : Int32) then (64 : Int32) else (65 : Int32)))), .unset] [])) (fun _ kst => XS.ifNo X29.here hx rfl (hb hby at_263) rfl ((if0 _ _).trans (feq (by decide : ¬ ((1 : Int32) = (0 : Int32)))).1) kst) ?_
  refine oS (u' := T29.setTop (mkF m 268 #[.val (.int p1), .val (.int p2), .val (.int p3), .val (.int (own_p p1)), .val (.int (own_at p2)), .val (.int (own_fill p3)), .val (.ref b9), .val (.int (2 : Int32)), .val (.int (own_ld p1)), .val (.int (own_tr p1)), .val (.int (1 : Int32)), .val (.int (1 : Int32)), .val (.int (((((own_ld p1) - (if (own_ld p1) < (160 : Int32) then (129 : Int32) else (193 : Int32))) * (188 : Int32)) + (own_tr p1)) - (if (own_tr p1) < (127 : Int32) then (64 : Int32) else (65 : Int32)))), .unset] [(.ref b9)])) (fun _ kst => XS.aload X29.here hx rfl (hb hby at_266) rfl rfl kst) ?_
  refine oS (u' := T29.setTop (mkF m 269 #[.val (.int p1), .val (.int p2), .val (.int p3), .val (.int (own_p p1)), .val (.int (own_at p2)), .val (.int (own_fill p3)), .val (.ref b9), .val (.int (2 : Int32)), .val (.int (own_ld p1)), .val (.int (own_tr p1)), .val (.int (1 : Int32)), .val (.int (1 : Int32)), .val (.int (((((own_ld p1) - (if (own_ld p1) < (160 : Int32) then (129 : Int32) else (193 : Int32))) * (188 : Int32)) + (own_tr p1)) - (if (own_tr p1) < (127 : Int32) then (64 : Int32) else (65 : Int32)))), .unset] [(.int (4 : Int32)), (.ref b9)])) (fun _ kst => XS.iconst X29.here hx rfl (hb hby at_268) kst) ?_
  refine oS (u' := T29.setTop (mkF m 271 #[.val (.int p1), .val (.int p2), .val (.int p3), .val (.int (own_p p1)), .val (.int (own_at p2)), .val (.int (own_fill p3)), .val (.ref b9), .val (.int (2 : Int32)), .val (.int (own_ld p1)), .val (.int (own_tr p1)), .val (.int (1 : Int32)), .val (.int (1 : Int32)), .val (.int (((((own_ld p1) - (if (own_ld p1) < (160 : Int32) then (129 : Int32) else (193 : Int32))) * (188 : Int32)) + (own_tr p1)) - (if (own_tr p1) < (127 : Int32) then (64 : Int32) else (65 : Int32)))), .unset] [(.int (own_at p2)), (.int (4 : Int32)), (.ref b9)])) (fun _ kst => XS.iload X29.here hx rfl (hb hby at_269) rfl kst) ?_
  refine oS (u' := T29.setTop (mkF m 273 #[.val (.int p1), .val (.int p2), .val (.int p3), .val (.int (own_p p1)), .val (.int (own_at p2)), .val (.int (own_fill p3)), .val (.ref b9), .val (.int (2 : Int32)), .val (.int (own_ld p1)), .val (.int (own_tr p1)), .val (.int (1 : Int32)), .val (.int (1 : Int32)), .val (.int (((((own_ld p1) - (if (own_ld p1) < (160 : Int32) then (129 : Int32) else (193 : Int32))) * (188 : Int32)) + (own_tr p1)) - (if (own_tr p1) < (127 : Int32) then (64 : Int32) else (65 : Int32)))), .unset] [(.int (own_fill p3)), (.int (own_at p2)), (.int (4 : Int32)), (.ref b9)])) (fun _ kst => XS.iload X29.here hx rfl (hb hby at_271) rfl kst) ?_
  obtain ⟨T30, X30, e30, st30⟩ := own_callSP X29 hx hZ (y := (⟨"com/example/untwist_forms/untwistforms/internal/ShiftJisWritePointerPinLaw", "untouched", "([BIIB)Z"⟩ : MethodName)) hown (hw _ (List.mem_of_getElem? (i := 6) rfl)) (hw _ (List.mem_of_getElem? (i := 7) rfl)) (hw _ (List.mem_of_getElem? (i := 9) rfl)) (hw _ (List.mem_of_getElem? (i := 8) rfl)) (by decide) e29 (W := 0) (own_rm_unt l Z a0 hw b9 (4 : Int32) (own_at p2) (own_fill p3) (own_g (own_fill p3) k (own_p p1)) 4 k T17.heap A17 (by decide) (by decide) hj (by omega) (fun h1 h2 => own_g_else h1 h2)) (by decide) (by decide) (g := (mkF m 273 #[.val (.int p1), .val (.int p2), .val (.int p3), .val (.int (own_p p1)), .val (.int (own_at p2)), .val (.int (own_fill p3)), .val (.ref b9), .val (.int (2 : Int32)), .val (.int (own_ld p1)), .val (.int (own_tr p1)), .val (.int (1 : Int32)), .val (.int (1 : Int32)), .val (.int (((((own_ld p1) - (if (own_ld p1) < (160 : Int32) then (129 : Int32) else (193 : Int32))) * (188 : Int32)) + (own_tr p1)) - (if (own_tr p1) < (127 : Int32) then (64 : Int32) else (65 : Int32)))), .unset] [(.int (own_fill p3)), (.int (own_at p2)), (.int (4 : Int32)), (.ref b9)])) rfl (by rw [hml]; rfl) (argsL := [(.ref b9), (.int (4 : Int32)), (.int (own_at p2)), (.int (own_fill p3))]) (rest := []) (lenOf own_pd1 rfl) rfl (by show 2 * 0 + _ ≤ _; exact Nat.le_of_eq rfl) (hb hby at_273) (by decide) (by decide)
  refine oS (u' := T30.setTop (mkF m 276 #[.val (.int p1), .val (.int p2), .val (.int p3), .val (.int (own_p p1)), .val (.int (own_at p2)), .val (.int (own_fill p3)), .val (.ref b9), .val (.int (2 : Int32)), .val (.int (own_ld p1)), .val (.int (own_tr p1)), .val (.int (1 : Int32)), .val (.int (1 : Int32)), .val (.int (((((own_ld p1) - (if (own_ld p1) < (160 : Int32) then (129 : Int32) else (193 : Int32))) * (188 : Int32)) + (own_tr p1)) - (if (own_tr p1) < (127 : Int32) then (64 : Int32) else (65 : Int32)))), .unset] [(.int (1 : Int32))])) st30 ?_
  refine oS (u' := T30.setTop (mkF m 279 #[.val (.int p1), .val (.int p2), .val (.int p3), .val (.int (own_p p1)), .val (.int (own_at p2)), .val (.int (own_fill p3)), .val (.ref b9), .val (.int (2 : Int32)), .val (.int (own_ld p1)), .val (.int (own_tr p1)), .val (.int (1 : Int32)), .val (.int (1 : Int32)), .val (.int (((((own_ld p1) - (if (own_ld p1) < (160 : Int32) then (129 : Int32) else (193 : Int32))) * (188 : Int32)) + (own_tr p1)) - (if (own_tr p1) < (127 : Int32) then (64 : Int32) else (65 : Int32)))), .unset] [])) (fun _ kst => XS.ifNo X30.here hx rfl (hb hby at_276) rfl ((if0 _ _).trans (feq (by decide : ¬ ((1 : Int32) = (0 : Int32)))).1) kst) ?_
  refine oS (u' := T30.setTop (mkF m 281 #[.val (.int p1), .val (.int p2), .val (.int p3), .val (.int (own_p p1)), .val (.int (own_at p2)), .val (.int (own_fill p3)), .val (.ref b9), .val (.int (2 : Int32)), .val (.int (own_ld p1)), .val (.int (own_tr p1)), .val (.int (1 : Int32)), .val (.int (1 : Int32)), .val (.int (((((own_ld p1) - (if (own_ld p1) < (160 : Int32) then (129 : Int32) else (193 : Int32))) * (188 : Int32)) + (own_tr p1)) - (if (own_tr p1) < (127 : Int32) then (64 : Int32) else (65 : Int32)))), .unset] [(.ref b9)])) (fun _ kst => XS.aload X30.here hx rfl (hb hby at_279) rfl rfl kst) ?_
  refine oS (u' := T30.setTop (mkF m 282 #[.val (.int p1), .val (.int p2), .val (.int p3), .val (.int (own_p p1)), .val (.int (own_at p2)), .val (.int (own_fill p3)), .val (.ref b9), .val (.int (2 : Int32)), .val (.int (own_ld p1)), .val (.int (own_tr p1)), .val (.int (1 : Int32)), .val (.int (1 : Int32)), .val (.int (((((own_ld p1) - (if (own_ld p1) < (160 : Int32) then (129 : Int32) else (193 : Int32))) * (188 : Int32)) + (own_tr p1)) - (if (own_tr p1) < (127 : Int32) then (64 : Int32) else (65 : Int32)))), .unset] [(.int (5 : Int32)), (.ref b9)])) (fun _ kst => XS.iconst X30.here hx rfl (hb hby at_281) kst) ?_
  refine oS (u' := T30.setTop (mkF m 284 #[.val (.int p1), .val (.int p2), .val (.int p3), .val (.int (own_p p1)), .val (.int (own_at p2)), .val (.int (own_fill p3)), .val (.ref b9), .val (.int (2 : Int32)), .val (.int (own_ld p1)), .val (.int (own_tr p1)), .val (.int (1 : Int32)), .val (.int (1 : Int32)), .val (.int (((((own_ld p1) - (if (own_ld p1) < (160 : Int32) then (129 : Int32) else (193 : Int32))) * (188 : Int32)) + (own_tr p1)) - (if (own_tr p1) < (127 : Int32) then (64 : Int32) else (65 : Int32)))), .unset] [(.int (own_at p2)), (.int (5 : Int32)), (.ref b9)])) (fun _ kst => XS.iload X30.here hx rfl (hb hby at_282) rfl kst) ?_
  refine oS (u' := T30.setTop (mkF m 286 #[.val (.int p1), .val (.int p2), .val (.int p3), .val (.int (own_p p1)), .val (.int (own_at p2)), .val (.int (own_fill p3)), .val (.ref b9), .val (.int (2 : Int32)), .val (.int (own_ld p1)), .val (.int (own_tr p1)), .val (.int (1 : Int32)), .val (.int (1 : Int32)), .val (.int (((((own_ld p1) - (if (own_ld p1) < (160 : Int32) then (129 : Int32) else (193 : Int32))) * (188 : Int32)) + (own_tr p1)) - (if (own_tr p1) < (127 : Int32) then (64 : Int32) else (65 : Int32)))), .unset] [(.int (own_fill p3)), (.int (own_at p2)), (.int (5 : Int32)), (.ref b9)])) (fun _ kst => XS.iload X30.here hx rfl (hb hby at_284) rfl kst) ?_
  obtain ⟨T31, X31, e31, st31⟩ := own_callSP X30 hx hZ (y := (⟨"com/example/untwist_forms/untwistforms/internal/ShiftJisWritePointerPinLaw", "untouched", "([BIIB)Z"⟩ : MethodName)) hown (hw _ (List.mem_of_getElem? (i := 6) rfl)) (hw _ (List.mem_of_getElem? (i := 7) rfl)) (hw _ (List.mem_of_getElem? (i := 9) rfl)) (hw _ (List.mem_of_getElem? (i := 8) rfl)) (by decide) e30 (W := 0) (own_rm_unt l Z a0 hw b9 (5 : Int32) (own_at p2) (own_fill p3) (own_g (own_fill p3) k (own_p p1)) 5 k T17.heap A17 (by decide) (by decide) hj (by omega) (fun h1 h2 => own_g_else h1 h2)) (by decide) (by decide) (g := (mkF m 286 #[.val (.int p1), .val (.int p2), .val (.int p3), .val (.int (own_p p1)), .val (.int (own_at p2)), .val (.int (own_fill p3)), .val (.ref b9), .val (.int (2 : Int32)), .val (.int (own_ld p1)), .val (.int (own_tr p1)), .val (.int (1 : Int32)), .val (.int (1 : Int32)), .val (.int (((((own_ld p1) - (if (own_ld p1) < (160 : Int32) then (129 : Int32) else (193 : Int32))) * (188 : Int32)) + (own_tr p1)) - (if (own_tr p1) < (127 : Int32) then (64 : Int32) else (65 : Int32)))), .unset] [(.int (own_fill p3)), (.int (own_at p2)), (.int (5 : Int32)), (.ref b9)])) rfl (by rw [hml]; rfl) (argsL := [(.ref b9), (.int (5 : Int32)), (.int (own_at p2)), (.int (own_fill p3))]) (rest := []) (lenOf own_pd1 rfl) rfl (by show 2 * 0 + _ ≤ _; exact Nat.le_of_eq rfl) (hb hby at_286) (by decide) (by decide)
  refine oS (u' := T31.setTop (mkF m 289 #[.val (.int p1), .val (.int p2), .val (.int p3), .val (.int (own_p p1)), .val (.int (own_at p2)), .val (.int (own_fill p3)), .val (.ref b9), .val (.int (2 : Int32)), .val (.int (own_ld p1)), .val (.int (own_tr p1)), .val (.int (1 : Int32)), .val (.int (1 : Int32)), .val (.int (((((own_ld p1) - (if (own_ld p1) < (160 : Int32) then (129 : Int32) else (193 : Int32))) * (188 : Int32)) + (own_tr p1)) - (if (own_tr p1) < (127 : Int32) then (64 : Int32) else (65 : Int32)))), .unset] [(.int (1 : Int32))])) st31 ?_
  refine oS (u' := T31.setTop (mkF m 292 #[.val (.int p1), .val (.int p2), .val (.int p3), .val (.int (own_p p1)), .val (.int (own_at p2)), .val (.int (own_fill p3)), .val (.ref b9), .val (.int (2 : Int32)), .val (.int (own_ld p1)), .val (.int (own_tr p1)), .val (.int (1 : Int32)), .val (.int (1 : Int32)), .val (.int (((((own_ld p1) - (if (own_ld p1) < (160 : Int32) then (129 : Int32) else (193 : Int32))) * (188 : Int32)) + (own_tr p1)) - (if (own_tr p1) < (127 : Int32) then (64 : Int32) else (65 : Int32)))), .unset] [])) (fun _ kst => XS.ifNo X31.here hx rfl (hb hby at_289) rfl ((if0 _ _).trans (feq (by decide : ¬ ((1 : Int32) = (0 : Int32)))).1) kst) ?_
  refine oS (u' := T31.setTop (mkF m 293 #[.val (.int p1), .val (.int p2), .val (.int p3), .val (.int (own_p p1)), .val (.int (own_at p2)), .val (.int (own_fill p3)), .val (.ref b9), .val (.int (2 : Int32)), .val (.int (own_ld p1)), .val (.int (own_tr p1)), .val (.int (1 : Int32)), .val (.int (1 : Int32)), .val (.int (((((own_ld p1) - (if (own_ld p1) < (160 : Int32) then (129 : Int32) else (193 : Int32))) * (188 : Int32)) + (own_tr p1)) - (if (own_tr p1) < (127 : Int32) then (64 : Int32) else (65 : Int32)))), .unset] [(.int (1 : Int32))])) (fun _ kst => XS.iconst X31.here hx rfl (hb hby at_292) kst) ?_
  refine oS (u' := T31.setTop (mkF m 297 #[.val (.int p1), .val (.int p2), .val (.int p3), .val (.int (own_p p1)), .val (.int (own_at p2)), .val (.int (own_fill p3)), .val (.ref b9), .val (.int (2 : Int32)), .val (.int (own_ld p1)), .val (.int (own_tr p1)), .val (.int (1 : Int32)), .val (.int (1 : Int32)), .val (.int (((((own_ld p1) - (if (own_ld p1) < (160 : Int32) then (129 : Int32) else (193 : Int32))) * (188 : Int32)) + (own_tr p1)) - (if (own_tr p1) < (127 : Int32) then (64 : Int32) else (65 : Int32)))), .unset] [(.int (1 : Int32))])) (fun _ kst => XS.goto X31.here hx rfl (pc0 := 293) (pc' := 297) rfl (hb hby at_293) (by decide) (by decide) kst) ?_
  refine oS (u' := T31.setTop (mkF m 299 #[.val (.int p1), .val (.int p2), .val (.int p3), .val (.int (own_p p1)), .val (.int (own_at p2)), .val (.int (own_fill p3)), .val (.ref b9), .val (.int (2 : Int32)), .val (.int (own_ld p1)), .val (.int (own_tr p1)), .val (.int (1 : Int32)), .val (.int (1 : Int32)), .val (.int (((((own_ld p1) - (if (own_ld p1) < (160 : Int32) then (129 : Int32) else (193 : Int32))) * (188 : Int32)) + (own_tr p1)) - (if (own_tr p1) < (127 : Int32) then (64 : Int32) else (65 : Int32)))), .val (.int (1 : Int32))] [])) (fun _ kst => XS.istore X31.here hx rfl (hb hby at_297) rfl (l' := #[.val (.int p1), .val (.int p2), .val (.int p3), .val (.int (own_p p1)), .val (.int (own_at p2)), .val (.int (own_fill p3)), .val (.ref b9), .val (.int (2 : Int32)), .val (.int (own_ld p1)), .val (.int (own_tr p1)), .val (.int (1 : Int32)), .val (.int (1 : Int32)), .val (.int (((((own_ld p1) - (if (own_ld p1) < (160 : Int32) then (129 : Int32) else (193 : Int32))) * (188 : Int32)) + (own_tr p1)) - (if (own_tr p1) < (127 : Int32) then (64 : Int32) else (65 : Int32)))), .val (.int (1 : Int32))]) rfl kst) ?_
  refine oS (u' := T31.setTop (mkF m 301 #[.val (.int p1), .val (.int p2), .val (.int p3), .val (.int (own_p p1)), .val (.int (own_at p2)), .val (.int (own_fill p3)), .val (.ref b9), .val (.int (2 : Int32)), .val (.int (own_ld p1)), .val (.int (own_tr p1)), .val (.int (1 : Int32)), .val (.int (1 : Int32)), .val (.int (((((own_ld p1) - (if (own_ld p1) < (160 : Int32) then (129 : Int32) else (193 : Int32))) * (188 : Int32)) + (own_tr p1)) - (if (own_tr p1) < (127 : Int32) then (64 : Int32) else (65 : Int32)))), .val (.int (1 : Int32))] [(.int (2 : Int32))])) (fun _ kst => XS.iload X31.here hx rfl (hb hby at_299) rfl kst) ?_
  refine oS (u' := T31.setTop (mkF m 302 #[.val (.int p1), .val (.int p2), .val (.int p3), .val (.int (own_p p1)), .val (.int (own_at p2)), .val (.int (own_fill p3)), .val (.ref b9), .val (.int (2 : Int32)), .val (.int (own_ld p1)), .val (.int (own_tr p1)), .val (.int (1 : Int32)), .val (.int (1 : Int32)), .val (.int (((((own_ld p1) - (if (own_ld p1) < (160 : Int32) then (129 : Int32) else (193 : Int32))) * (188 : Int32)) + (own_tr p1)) - (if (own_tr p1) < (127 : Int32) then (64 : Int32) else (65 : Int32)))), .val (.int (1 : Int32))] [(.int (2 : Int32)), (.int (2 : Int32))])) (fun _ kst => XS.iconst X31.here hx rfl (hb hby at_301) kst) ?_
  refine oS (u' := T31.setTop (mkF m 305 #[.val (.int p1), .val (.int p2), .val (.int p3), .val (.int (own_p p1)), .val (.int (own_at p2)), .val (.int (own_fill p3)), .val (.ref b9), .val (.int (2 : Int32)), .val (.int (own_ld p1)), .val (.int (own_tr p1)), .val (.int (1 : Int32)), .val (.int (1 : Int32)), .val (.int (((((own_ld p1) - (if (own_ld p1) < (160 : Int32) then (129 : Int32) else (193 : Int32))) * (188 : Int32)) + (own_tr p1)) - (if (own_tr p1) < (127 : Int32) then (64 : Int32) else (65 : Int32)))), .val (.int (1 : Int32))] [])) (fun _ kst => XS.icmpNo X31.here hx rfl (hb hby at_302) rfl (teq (by decide : (2 : Int32) = (2 : Int32))).2 kst) ?_
  refine oS (u' := T31.setTop (mkF m 307 #[.val (.int p1), .val (.int p2), .val (.int p3), .val (.int (own_p p1)), .val (.int (own_at p2)), .val (.int (own_fill p3)), .val (.ref b9), .val (.int (2 : Int32)), .val (.int (own_ld p1)), .val (.int (own_tr p1)), .val (.int (1 : Int32)), .val (.int (1 : Int32)), .val (.int (((((own_ld p1) - (if (own_ld p1) < (160 : Int32) then (129 : Int32) else (193 : Int32))) * (188 : Int32)) + (own_tr p1)) - (if (own_tr p1) < (127 : Int32) then (64 : Int32) else (65 : Int32)))), .val (.int (1 : Int32))] [(.int (1 : Int32))])) (fun _ kst => XS.iload X31.here hx rfl (hb hby at_305) rfl kst) ?_
  refine oS (u' := T31.setTop (mkF m 310 #[.val (.int p1), .val (.int p2), .val (.int p3), .val (.int (own_p p1)), .val (.int (own_at p2)), .val (.int (own_fill p3)), .val (.ref b9), .val (.int (2 : Int32)), .val (.int (own_ld p1)), .val (.int (own_tr p1)), .val (.int (1 : Int32)), .val (.int (1 : Int32)), .val (.int (((((own_ld p1) - (if (own_ld p1) < (160 : Int32) then (129 : Int32) else (193 : Int32))) * (188 : Int32)) + (own_tr p1)) - (if (own_tr p1) < (127 : Int32) then (64 : Int32) else (65 : Int32)))), .val (.int (1 : Int32))] [])) (fun _ kst => XS.ifNo X31.here hx rfl (hb hby at_307) rfl ((if0 _ _).trans (feq (by decide : ¬ ((1 : Int32) = (0 : Int32)))).1) kst) ?_
  refine oS (u' := T31.setTop (mkF m 312 #[.val (.int p1), .val (.int p2), .val (.int p3), .val (.int (own_p p1)), .val (.int (own_at p2)), .val (.int (own_fill p3)), .val (.ref b9), .val (.int (2 : Int32)), .val (.int (own_ld p1)), .val (.int (own_tr p1)), .val (.int (1 : Int32)), .val (.int (1 : Int32)), .val (.int (((((own_ld p1) - (if (own_ld p1) < (160 : Int32) then (129 : Int32) else (193 : Int32))) * (188 : Int32)) + (own_tr p1)) - (if (own_tr p1) < (127 : Int32) then (64 : Int32) else (65 : Int32)))), .val (.int (1 : Int32))] [(.int (1 : Int32))])) (fun _ kst => XS.iload X31.here hx rfl (hb hby at_310) rfl kst) ?_
  refine oS (u' := T31.setTop (mkF m 315 #[.val (.int p1), .val (.int p2), .val (.int p3), .val (.int (own_p p1)), .val (.int (own_at p2)), .val (.int (own_fill p3)), .val (.ref b9), .val (.int (2 : Int32)), .val (.int (own_ld p1)), .val (.int (own_tr p1)), .val (.int (1 : Int32)), .val (.int (1 : Int32)), .val (.int (((((own_ld p1) - (if (own_ld p1) < (160 : Int32) then (129 : Int32) else (193 : Int32))) * (188 : Int32)) + (own_tr p1)) - (if (own_tr p1) < (127 : Int32) then (64 : Int32) else (65 : Int32)))), .val (.int (1 : Int32))] [])) (fun _ kst => XS.ifNo X31.here hx rfl (hb hby at_312) rfl ((if0 _ _).trans (feq (by decide : ¬ ((1 : Int32) = (0 : Int32)))).1) kst) ?_
  refine oS (u' := T31.setTop (mkF m 317 #[.val (.int p1), .val (.int p2), .val (.int p3), .val (.int (own_p p1)), .val (.int (own_at p2)), .val (.int (own_fill p3)), .val (.ref b9), .val (.int (2 : Int32)), .val (.int (own_ld p1)), .val (.int (own_tr p1)), .val (.int (1 : Int32)), .val (.int (1 : Int32)), .val (.int (((((own_ld p1) - (if (own_ld p1) < (160 : Int32) then (129 : Int32) else (193 : Int32))) * (188 : Int32)) + (own_tr p1)) - (if (own_tr p1) < (127 : Int32) then (64 : Int32) else (65 : Int32)))), .val (.int (1 : Int32))] [(.int (((((own_ld p1) - (if (own_ld p1) < (160 : Int32) then (129 : Int32) else (193 : Int32))) * (188 : Int32)) + (own_tr p1)) - (if (own_tr p1) < (127 : Int32) then (64 : Int32) else (65 : Int32))))])) (fun _ kst => XS.iload X31.here hx rfl (hb hby at_315) rfl kst) ?_
  refine oS (u' := T31.setTop (mkF m 318 #[.val (.int p1), .val (.int p2), .val (.int p3), .val (.int (own_p p1)), .val (.int (own_at p2)), .val (.int (own_fill p3)), .val (.ref b9), .val (.int (2 : Int32)), .val (.int (own_ld p1)), .val (.int (own_tr p1)), .val (.int (1 : Int32)), .val (.int (1 : Int32)), .val (.int (((((own_ld p1) - (if (own_ld p1) < (160 : Int32) then (129 : Int32) else (193 : Int32))) * (188 : Int32)) + (own_tr p1)) - (if (own_tr p1) < (127 : Int32) then (64 : Int32) else (65 : Int32)))), .val (.int (1 : Int32))] [(.int (own_p p1)), (.int (((((own_ld p1) - (if (own_ld p1) < (160 : Int32) then (129 : Int32) else (193 : Int32))) * (188 : Int32)) + (own_tr p1)) - (if (own_tr p1) < (127 : Int32) then (64 : Int32) else (65 : Int32))))])) (fun _ kst => XS.iloadN X31.here hx rfl (hb hby at_317) rfl kst) ?_
  refine oS (u' := T31.setTop (mkF m 321 #[.val (.int p1), .val (.int p2), .val (.int p3), .val (.int (own_p p1)), .val (.int (own_at p2)), .val (.int (own_fill p3)), .val (.ref b9), .val (.int (2 : Int32)), .val (.int (own_ld p1)), .val (.int (own_tr p1)), .val (.int (1 : Int32)), .val (.int (1 : Int32)), .val (.int (((((own_ld p1) - (if (own_ld p1) < (160 : Int32) then (129 : Int32) else (193 : Int32))) * (188 : Int32)) + (own_tr p1)) - (if (own_tr p1) < (127 : Int32) then (64 : Int32) else (65 : Int32)))), .val (.int (1 : Int32))] [])) (fun _ kst => XS.icmpNo X31.here hx rfl (hb hby at_318) rfl (teq (own_back p1)).2 kst) ?_
  refine oS (u' := T31.setTop (mkF m 323 #[.val (.int p1), .val (.int p2), .val (.int p3), .val (.int (own_p p1)), .val (.int (own_at p2)), .val (.int (own_fill p3)), .val (.ref b9), .val (.int (2 : Int32)), .val (.int (own_ld p1)), .val (.int (own_tr p1)), .val (.int (1 : Int32)), .val (.int (1 : Int32)), .val (.int (((((own_ld p1) - (if (own_ld p1) < (160 : Int32) then (129 : Int32) else (193 : Int32))) * (188 : Int32)) + (own_tr p1)) - (if (own_tr p1) < (127 : Int32) then (64 : Int32) else (65 : Int32)))), .val (.int (1 : Int32))] [(.int (1 : Int32))])) (fun _ kst => XS.iload X31.here hx rfl (hb hby at_321) rfl kst) ?_
  refine oS (u' := T31.setTop (mkF m 326 #[.val (.int p1), .val (.int p2), .val (.int p3), .val (.int (own_p p1)), .val (.int (own_at p2)), .val (.int (own_fill p3)), .val (.ref b9), .val (.int (2 : Int32)), .val (.int (own_ld p1)), .val (.int (own_tr p1)), .val (.int (1 : Int32)), .val (.int (1 : Int32)), .val (.int (((((own_ld p1) - (if (own_ld p1) < (160 : Int32) then (129 : Int32) else (193 : Int32))) * (188 : Int32)) + (own_tr p1)) - (if (own_tr p1) < (127 : Int32) then (64 : Int32) else (65 : Int32)))), .val (.int (1 : Int32))] [])) (fun _ kst => XS.ifNo X31.here hx rfl (hb hby at_323) rfl ((if0 _ _).trans (feq (by decide : ¬ ((1 : Int32) = (0 : Int32)))).1) kst) ?_
  refine oS (u' := T31.setTop (mkF m 327 #[.val (.int p1), .val (.int p2), .val (.int p3), .val (.int (own_p p1)), .val (.int (own_at p2)), .val (.int (own_fill p3)), .val (.ref b9), .val (.int (2 : Int32)), .val (.int (own_ld p1)), .val (.int (own_tr p1)), .val (.int (1 : Int32)), .val (.int (1 : Int32)), .val (.int (((((own_ld p1) - (if (own_ld p1) < (160 : Int32) then (129 : Int32) else (193 : Int32))) * (188 : Int32)) + (own_tr p1)) - (if (own_tr p1) < (127 : Int32) then (64 : Int32) else (65 : Int32)))), .val (.int (1 : Int32))] [(.int (1 : Int32))])) (fun _ kst => XS.iconst X31.here hx rfl (hb hby at_326) kst) ?_
  refine oS (u' := T31.setTop (mkF m 331 #[.val (.int p1), .val (.int p2), .val (.int p3), .val (.int (own_p p1)), .val (.int (own_at p2)), .val (.int (own_fill p3)), .val (.ref b9), .val (.int (2 : Int32)), .val (.int (own_ld p1)), .val (.int (own_tr p1)), .val (.int (1 : Int32)), .val (.int (1 : Int32)), .val (.int (((((own_ld p1) - (if (own_ld p1) < (160 : Int32) then (129 : Int32) else (193 : Int32))) * (188 : Int32)) + (own_tr p1)) - (if (own_tr p1) < (127 : Int32) then (64 : Int32) else (65 : Int32)))), .val (.int (1 : Int32))] [(.int (1 : Int32))])) (fun _ kst => XS.goto X31.here hx rfl (pc0 := 327) (pc' := 331) rfl (hb hby at_327) (by decide) (by decide) kst) ?_
  refine own_retN X31 hx hlk (t := .boolean) hret (by simp) (hb hby at_331) ?_ (by decide) (by decide)
  exact ⟨rfl, N17⟩
set_option maxRecDepth 65536 in
set_option maxHeartbeats 40000000 in
theorem comes_1 {Post : Tables → Env → Array Value → State → Outcome → State → Prop} (hpost : ∀ tb e args s v u, (limb_1_1.after args s (.returned v) u = true ∧ limb_1_2.after args s (.returned v) u = true ∧ True) → FrameEnd s (.returned v) u (Jvm.fieldLocs frame_1_writes args s ++ Jvm.arrayLocs frame_1_arrays args s ++ Jvm.staticLocs frame_1_statics s) 16 128 → Post tb e args s (.returned v) u) :
    ArmFor flags0 classFile x code maxLocals ret World_1 tables_1 room_1 Calls_1 rest_1 Pre_1 Post := by
  intro l hfl _ _ p e ha hc hk s m args below hf hA hF happ hP
  obtain ⟨hcalls, hrest, hpre⟩ := hP
  obtain ⟨-, -, -, hnamed, -, -, -, hat⟩ := (Spec.applies_iff hf).mp happ
  obtain ⟨hg, hn⟩ := and_e (Cond.before_iff.mp (show (Jvm.Cond.and given_1 narrow_1).before args s = true from hpre))
  obtain ⟨g0, gg0⟩ := and_e hg
  obtain ⟨g1, gg1⟩ := and_e gg0
  obtain ⟨g2, gg2⟩ := and_e gg1
  obtain ⟨w0, w1, w2, rfl⟩ : ∃ w0 w1 w2 : Value, args = #[w0, w1, w2] := by
    have hs : args.size = 3 := by simpa [Cond.value, given_1] using g0
    obtain ⟨L⟩ := args
    match L, hs with
    | [w0, w1, w2], _ => exact ⟨w0, w1, w2, rfl⟩
  have hw := fun d (hd : d ∈ tables_1) => atoms_spec (ws := Jvm.Cond.code x code maxLocals ret :: tables_1) hat d (List.mem_cons_of_mem _ hd)
  have hfit : Fit s := fun {y c} hc i hi => by
    obtain ⟨ha, rfl⟩ := Array.getElem?_eq_some_iff.mp hc
    have q := List.all_eq_true.mp ((Array.all_eq_true_iff_forall_mem.mp hF) _ (Array.getElem_mem ha)) i (List.mem_range.mpr hi)
    simpa [Array.getElem?_eq_getElem hi] using q
  obtain ⟨i0, ei0⟩ := is_v g1
  obtain rfl : w0 = (.int i0) := Option.some.inj ei0
  obtain ⟨i1, ei1⟩ := is_v g2
  obtain rfl : w1 = (.int i1) := Option.some.inj ei1
  obtain ⟨i2, ei2⟩ := is_v gg2
  obtain rfl : w2 = (.int i2) := Option.some.inj ei2
  obtain ⟨n, o, h1, h2, h3, _, L, rfl, ⟨rfl, N⟩, hq⟩ := own_law l s _ hw i0 i1 i2 s.heap s.heap.size (Nat.le_refl _) p e ha hc hk s m _ below hf ((Spec.applies_iff_loose hf).mp happ).1 ⟨rfl, State.Warmed39.refl s, rfl⟩ trivial
  refine ⟨n, _, h1, h2, h3, hpost _ _ _ _ _ _ ⟨Cond.after_iff.mpr rfl, Cond.after_iff.mpr (eq_i res_at (Term.int_eval (1)) rfl), trivial⟩ ⟨hq.1, hq.2.1, (hq.2.2.sift fun y hy => Or.inr (N y hy)).mono (by decide) (by decide)⟩⟩
theorem main_1_1 : Claimed_1_1 := comes_1 fun _ _ _ _ _ _ h hF => ⟨h.1, hF⟩
theorem main_1_2 : Claimed_1_2 := comes_1 fun _ _ _ _ _ _ h hF => ⟨h.2.1, hF⟩
end Jvm.Pilot.@@N@@
namespace Jvm.Pilot.@@N@@
open Jvm Jvm.ClassFile Sem Op Lib Jvm.Free Jvm.Stand Jvm.Pilot.@@N@@.Jvm.D
/-! MADE BY PROGRAM (witnessworld.py) out of the Statement's table words and the real class files: 9 classes; the members and pool entries that the words name. The judged class is class 1, her method 1. -/
namespace start1
open Jvm.ClassFile
def u (s : String) : CpInfo := .utf8 (stringToUtf16 s)
/-- a pool by its gaps: so many unusable entries, then the entry; so many at the end -/
def gap : Nat → List CpInfo → List CpInfo
  | 0, r => r
  | n + 1, r => .unusable :: gap n r
def poolList (es : List (Nat × CpInfo)) (last : Nat) : List CpInfo := es.foldr (fun e r => gap e.1 (e.2 :: r)) (gap last [])
def pool (es : List (Nat × CpInfo)) (last : Nat) : Array CpInfo := ⟨poolList es last⟩
def fileOf (pool : Array CpInfo) (this : Nat) (attrs : Array Attribute := #[]) (ms : Array MethodInfo := #[]) (fl : Nat := 33) (sup : Nat := 0) (ifs : Array Nat := #[]) (fds : Array FieldInfo := #[]) : ClassFile where
  minorVersion := 0
  majorVersion := 65
  constantPool := pool
  accessFlags := fl
  thisClass := this
  superClass := sup
  interfaces := ifs
  fields := fds
  methods := ms
  attributes := attrs
def plain (name : String) (sup : Option ClassId) : Class where
  name := name
  kind := .ordinary
  loader := none
  accessFlags := 33
  super := sup
  interfaces := #[]
  cf := none
  fields := #[]
  methods := #[]
  instanceTypes := #[]
  staticTypes := #[]
  resolved := #[]
  callSites := []
  init := .initialized
  statics := none
  mirror := none

def pool0 : Array CpInfo := pool [(5, u "<init>"), (0, u "()V"), (1, .class_ 10), (1, u "java/lang/Object")] 113

def k0m0 : Method := { name := "<init>", desc := "()V", sig := { parameters := [], returnType := none }, accessFlags := 1, code := none }
/-- java/lang/Object -/
def k0 : Class := { plain "java/lang/Object" none with
  accessFlags := 33
  interfaces := #[]
  cf := some (fileOf pool0 8 #[] #[{ accessFlags := 1, nameIndex := 5, descriptorIndex := 6, attributes := #[] }] 33 0 #[] #[])
  fields := #[]
  methods := #[k0m0]
  instanceTypes := #[]
  staticTypes := #[]
  resolved := Array.replicate 124 none
  statics := none }

def pool1 : Array CpInfo := pool [(2, .class_ 4), (1, u "java/lang/Object"), (0, u "<init>"), (0, u "()V"), (0, .integer 2147483647), (0, .methodref 9 10), (0, .class_ 11), (0, .nameAndType 12 13), (0, u "com/example/untwist_forms/untwistforms/internal/ShiftJis"), (0, u "writePointer"), (0, u "(I[BI)I"), (0, .methodref 15 16), (0, .class_ 17), (0, .nameAndType 18 19), (0, u "com/example/untwist_forms/untwistforms/internal/ShiftJisWritePointerPinLaw"), (0, u "untouched"), (0, u "([BIIB)Z"), (2, u "law"), (0, u "(III)Z")] 5

def k1m0 : Method := { name := "<init>", desc := "()V", sig := { parameters := [], returnType := none }, accessFlags := 2, code := none }
def k1c1 : Code := { maxStack := 4, maxLocals := 14, code := code, exceptionTable := #[], attributes := #[] }
def k1m1 : Method := { name := "law", desc := "(III)Z", sig := { parameters := [.int, .int, .int], returnType := some .boolean }, accessFlags := 9, code := some k1c1 }
def k1c2 : Code := { maxStack := 3, maxLocals := 4, code := method_3_code, exceptionTable := #[], attributes := #[] }
def k1m2 : Method := { name := "untouched", desc := "([BIIB)Z", sig := { parameters := [(.array .byte), .int, .int, .byte], returnType := some .boolean }, accessFlags := 10, code := some k1c2 }
/-- com/example/untwist_forms/untwistforms/internal/ShiftJisWritePointerPinLaw -/
def k1 : Class := { plain "com/example/untwist_forms/untwistforms/internal/ShiftJisWritePointerPinLaw" (some 0) with
  accessFlags := 49
  interfaces := #[]
  cf := some (fileOf pool1 15 #[] #[{ accessFlags := 2, nameIndex := 5, descriptorIndex := 6, attributes := #[] }, { accessFlags := 9, nameIndex := 22, descriptorIndex := 23, attributes := #[] }, { accessFlags := 10, nameIndex := 18, descriptorIndex := 19, attributes := #[] }] 49 2 #[] #[])
  fields := #[]
  methods := #[k1m0, k1m1, k1m2]
  instanceTypes := #[]
  staticTypes := #[]
  resolved := Array.replicate 29 none
  statics := none }

def pool2 : Array CpInfo := pool [(2, .class_ 4), (1, u "java/lang/Object"), (0, u "<init>"), (0, u "()V"), (7, .class_ 16), (1, u "com/example/untwist_forms/untwistforms/internal/ShiftJis"), (12, u "POINTERS"), (0, u "Lcom/example/untwist_forms/untwistforms/internal/InverseIndex;"), (9, u "writePointer"), (0, u "(I[BI)I"), (22, u "REPLACEMENT"), (0, u "C"), (1, u "HALFWIDTH_KATAKANA"), (0, u "I"), (0, u "HALFWIDTH_KATAKANA_LAST"), (0, u "YEN_SIGN"), (1, u "OVERLINE"), (1, u "MINUS_SIGN"), (1, u "FULLWIDTH_HYPHEN_MINUS"), (0, u "NEC_IBM_FIRST"), (1, u "NEC_IBM_LAST")] 33

def k2m0 : Method := { name := "<init>", desc := "()V", sig := { parameters := [], returnType := none }, accessFlags := 2, code := none }
def k2c1 : Code := { maxStack := 5, maxLocals := 5, code := prog_31_method_4_code, exceptionTable := #[], attributes := #[] }
def k2m1 : Method := { name := "writePointer", desc := "(I[BI)I", sig := { parameters := [.int, (.array .byte), .int], returnType := some .int }, accessFlags := 9, code := some k2c1 }
/-- com/example/untwist_forms/untwistforms/internal/ShiftJis -/
def k2 : Class := { plain "com/example/untwist_forms/untwistforms/internal/ShiftJis" (some 0) with
  accessFlags := 49
  interfaces := #[]
  cf := some (fileOf pool2 14 #[] #[{ accessFlags := 2, nameIndex := 5, descriptorIndex := 6, attributes := #[] }, { accessFlags := 9, nameIndex := 40, descriptorIndex := 41, attributes := #[] }] 49 2 #[] #[{ accessFlags := 26, nameIndex := 64, descriptorIndex := 65, attributes := #[] }, { accessFlags := 26, nameIndex := 67, descriptorIndex := 68, attributes := #[] }, { accessFlags := 26, nameIndex := 69, descriptorIndex := 68, attributes := #[] }, { accessFlags := 26, nameIndex := 70, descriptorIndex := 68, attributes := #[] }, { accessFlags := 26, nameIndex := 72, descriptorIndex := 68, attributes := #[] }, { accessFlags := 26, nameIndex := 74, descriptorIndex := 68, attributes := #[] }, { accessFlags := 26, nameIndex := 76, descriptorIndex := 68, attributes := #[] }, { accessFlags := 26, nameIndex := 77, descriptorIndex := 68, attributes := #[] }, { accessFlags := 26, nameIndex := 79, descriptorIndex := 68, attributes := #[] }, { accessFlags := 26, nameIndex := 29, descriptorIndex := 30, attributes := #[] }])
  fields := #[{ name := "REPLACEMENT", type := .char, accessFlags := 26, slot := 0, constantValue := 0 }, { name := "HALFWIDTH_KATAKANA", type := .int, accessFlags := 26, slot := 1, constantValue := 0 }, { name := "HALFWIDTH_KATAKANA_LAST", type := .int, accessFlags := 26, slot := 2, constantValue := 0 }, { name := "YEN_SIGN", type := .int, accessFlags := 26, slot := 3, constantValue := 0 }, { name := "OVERLINE", type := .int, accessFlags := 26, slot := 4, constantValue := 0 }, { name := "MINUS_SIGN", type := .int, accessFlags := 26, slot := 5, constantValue := 0 }, { name := "FULLWIDTH_HYPHEN_MINUS", type := .int, accessFlags := 26, slot := 6, constantValue := 0 }, { name := "NEC_IBM_FIRST", type := .int, accessFlags := 26, slot := 7, constantValue := 0 }, { name := "NEC_IBM_LAST", type := .int, accessFlags := 26, slot := 8, constantValue := 0 }, { name := "POINTERS", type := (.object "com/example/untwist_forms/untwistforms/internal/InverseIndex"), accessFlags := 26, slot := 9, constantValue := 0 }]
  methods := #[k2m0, k2m1]
  instanceTypes := #[]
  staticTypes := #[.char, .int, .int, .int, .int, .int, .int, .int, .int, (.object "com/example/untwist_forms/untwistforms/internal/InverseIndex")]
  resolved := Array.replicate 113 none
  statics := none }

def pool3 : Array CpInfo := pool [(1, u "java/lang/Cloneable"), (0, .class_ 1), (0, u "java/lang/Object"), (0, .class_ 3)] 3

/-- java/lang/Cloneable -/
def k3 : Class := { plain "java/lang/Cloneable" (some 0) with
  accessFlags := 1537
  interfaces := #[]
  cf := some (fileOf pool3 2 #[] #[] 1537 4 #[] #[])
  fields := #[]
  methods := #[]
  instanceTypes := #[]
  staticTypes := #[]
  resolved := Array.replicate 8 none
  statics := none }

def pool4 : Array CpInfo := pool [(1, u "java/io/Serializable"), (0, .class_ 1), (0, u "java/lang/Object"), (0, .class_ 3)] 3

/-- java/io/Serializable -/
def k4 : Class := { plain "java/io/Serializable" (some 0) with
  accessFlags := 1537
  interfaces := #[]
  cf := some (fileOf pool4 2 #[] #[] 1537 4 #[] #[])
  fields := #[]
  methods := #[]
  instanceTypes := #[]
  staticTypes := #[]
  resolved := Array.replicate 8 none
  statics := none }

/-- the primitive byte -/
def k5 : Class := { plain "byte" none with kind := .primitive 'B', accessFlags := 0x411 }
/-- [B -/
def k6 : Class := { plain "[B" (some 0) with kind := .array 5 .byte, interfaces := #[3, 4], accessFlags := 1041 }

/-- the primitive int -/
def k7 : Class := { plain "int" none with kind := .primitive 'I', accessFlags := 0x411 }
/-- [I -/
def k8 : Class := { plain "[I" (some 0) with kind := .array 7 .int, interfaces := #[3, 4], accessFlags := 1041 }

def heap : Heap := #[]
def classes : Array Class := #[k0, k1, k2, k3, k4, k5, k6, k7, k8]
def interned : List (Array UInt16 × Addr) := []
def slotsUsed : Nat := 0
def theMethod : MethodId := ⟨1, 1⟩
def args0 : Array Value := #[.int 5, .int 7, .int 9]
def aboutOver (below : List Frame) : State where
  vm := { classes := classes, interned := interned.toArray }
  heap := heap
  slotsUsed := slotsUsed
  threads := #[{ frames := .invoking theMethod args0 :: below }]
def below0 : List Frame := [.native { method := ⟨0, 0⟩, args := #[] }]
def about1 : State := aboutOver below0
def p0 : Program := .bare "" "" ""
def e0 : Env := launch0.env 0 0 0
theorem w_frames : about1.frames = Frame.invoking theMethod args0 :: below0 := rfl
set_option maxRecDepth 65536 in
theorem w_args : argsFit about1.vm theMethod args0 = true := by decide +kernel
set_option maxRecDepth 65536 in
theorem w_heap : heapFits about1 = true := by decide +kernel
set_option maxRecDepth 65536 in
theorem w_runnable : about1.curStatus? = some .runnable := by decide +kernel
set_option maxRecDepth 65536 in
theorem w_alone : about1.alone = true := by decide +kernel
set_option maxRecDepth 65536 in
theorem w_named : about1.methodNamed? x = some theMethod := by decide +kernel
set_option maxRecDepth 65536 in
theorem w_hears : about1.hears theMethod below0 = true := by decide +kernel
set_option maxRecDepth 65536 in
theorem w_ripe : about1.ripe theMethod args0 below0 = true := by decide +kernel
theorem w_running : about1.status = .running := rfl
set_option maxRecDepth 65536 in
theorem w_room : about1.hasRoom e0.platform room_1 = true :=
  launch0.hasRoom_least _ room_1 (by decide +kernel) (by decide +kernel) (by decide +kernel) (by decide +kernel) (by decide +kernel) (by decide +kernel)
theorem allAtoms_all (ts : List Jvm.Cond) (a : Array Jvm.Value) (st : Jvm.State) : (allAtoms ts).before a st = ts.all (fun c => c.before a st) := by
  induction ts with
  | nil => rfl
  | cons c t ih =>
    show (Jvm.Cond.and c (allAtoms t)).before a st = _
    rw [Jvm.Cond.before_and, ih, List.all_cons]
def words1 : List Jvm.Cond := Jvm.Cond.code x code maxLocals ret :: tables_1
/-- a 'code' word, met by the world's own term for the bytes: nothing is compared byte by byte -/
theorem code_word {y : MethodName} {bytes : ByteArray} {mx : Nat} {rt : Option FieldType} {a : Array Value} {s : State} {m : MethodId} {meth : Method} {c : Code} (h1 : s.methodNamed? y = some m) (h2 : s.vm.method? m = some meth) (h3 : meth.code = some c) (h4 : c.code = bytes)
    (h5 : (c.maxLocals == mx && c.exceptionTable.isEmpty && decide (c.maxStack ≤ mostOperands) && decide (meth.sig.returnType = rt) && !meth.locks && decide (parseMethodDescriptor y.desc = some meth.sig)) = true) : (Jvm.Cond.code y bytes mx rt).before a s = true := by
  simp only [Bool.and_eq_true, beq_iff_eq, Bool.not_eq_true', decide_eq_true_eq] at h5
  obtain ⟨⟨⟨⟨⟨g1, g2⟩, g3⟩, g4⟩, g5⟩, g6⟩ := h5
  simp [Cond.before, Cond.holds, Cond.value, h1, h2, h3, h4, g1, g2, g3, g4, g5, g6]
def isCode : Jvm.Cond → Bool
  | .code _ _ _ _ => true
  | _ => false
theorem all_split {L : List Jvm.Cond} {P : Jvm.Cond → Bool} (h1 : L.all (fun c => isCode c || P c) = true) (h2 : ∀ c ∈ L.filter isCode, P c = true) : L.all P = true := by
  refine List.all_eq_true.mpr fun c hc => ?_
  have h := List.all_eq_true.mp h1 c hc
  rcases Bool.eq_false_or_eq_true (isCode c) with hi | hi
  · exact h2 c (List.mem_filter.mpr ⟨hc, hi⟩)
  · simpa [hi] using h
set_option maxRecDepth 65536 in
theorem w_c0 : (Jvm.Cond.code x code maxLocals ret).before args0 about1 = true := code_word (m := ⟨1, 1⟩) (meth := k1m1) (c := k1c1) (by decide +kernel) rfl rfl rfl (by decide +kernel)
set_option maxRecDepth 65536 in
theorem w_c1 : (Jvm.Cond.code ({ cls := "com/example/untwist_forms/untwistforms/internal/ShiftJis", name := "writePointer", desc := "(I[BI)I" } : Jvm.MethodName) prog_31_method_4_code (5 : Nat) (Option.some Jvm.ClassFile.FieldType.int)).before args0 about1 = true := code_word (m := ⟨2, 1⟩) (meth := k2m1) (c := k2c1) (by decide +kernel) rfl rfl rfl (by decide +kernel)
set_option maxRecDepth 65536 in
theorem w_c2 : (Jvm.Cond.code ({ cls := "com/example/untwist_forms/untwistforms/internal/ShiftJisWritePointerPinLaw", name := "untouched", desc := "([BIIB)Z" } : Jvm.MethodName) method_3_code (4 : Nat) (Option.some Jvm.ClassFile.FieldType.boolean)).before args0 about1 = true := code_word (m := ⟨1, 2⟩) (meth := k1m2) (c := k1c2) (by decide +kernel) rfl rfl rfl (by decide +kernel)
def codes1 : List Jvm.Cond := [Jvm.Cond.code x code maxLocals ret, Jvm.Cond.code ({ cls := "com/example/untwist_forms/untwistforms/internal/ShiftJis", name := "writePointer", desc := "(I[BI)I" } : Jvm.MethodName) prog_31_method_4_code (5 : Nat) (Option.some Jvm.ClassFile.FieldType.int), Jvm.Cond.code ({ cls := "com/example/untwist_forms/untwistforms/internal/ShiftJisWritePointerPinLaw", name := "untouched", desc := "([BIIB)Z" } : Jvm.MethodName) method_3_code (4 : Nat) (Option.some Jvm.ClassFile.FieldType.boolean)]
set_option maxRecDepth 65536 in
theorem codes_eq : words1.filter isCode = codes1 := rfl
theorem w_codes : ∀ c ∈ words1.filter isCode, c.before args0 about1 = true := by
  rw [codes_eq]
  intro c hc
  simp only [codes1, List.mem_cons, List.not_mem_nil, or_false] at hc
  rcases hc with rfl | rfl | rfl
  · exact w_c0
  · exact w_c1
  · exact w_c2
set_option maxRecDepth 65536 in
theorem w_t1 : words1.all (fun c => isCode c || c.before args0 about1) = true := by decide +kernel
theorem w_tables : (allAtoms (Jvm.Cond.code x code maxLocals ret :: tables_1)).before args0 about1 = true := by
  rw [allAtoms_all]
  show words1.all (fun c => c.before args0 about1) = true
  refine all_split ?_ w_codes
  rw [w_t1]
set_option maxRecDepth 65536 in
theorem w_case : (Jvm.Cond.and given_1 narrow_1).before args0 about1 = true := by decide +kernel
theorem w_applies : (headSpec (Jvm.Cond.code x code maxLocals ret :: tables_1) room_1).applies x e0.platform about1 = true :=
  (Spec.applies_iff w_frames).mpr ⟨w_running, w_runnable, w_alone, w_named, w_hears, w_ripe, w_room, w_tables⟩
theorem atStart : AtStart classFile x code maxLocals ret World_1 tables_1 room_1 Calls_1 rest_1 Pre_1 launch0 p0 e0 about1 theMethod args0 below0 :=
  ⟨lists_1, trivial, launch0.admits_env _ _ _, launch0.least_env, fairChoices_fair.cas, fairChoices_fair.clock, w_frames, w_args, w_heap, w_applies, trivial, trivial, w_case⟩
end start1
theorem witness_1 : WitnessClaimed_1 := ⟨start1.p0, start1.e0, start1.about1, start1.theMethod, start1.args0, start1.below0, start1.atStart⟩
end Jvm.Pilot.@@N@@
