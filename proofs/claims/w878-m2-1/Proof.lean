import JvmDerived
import JvmDerived.Pilot.@@N@@Statement
import JvmDerived.Pilot.@@N@@Code
set_option linter.unusedVariables false
set_option linter.unusedSimpArgs false
@@BLOCK:NumsL.lean.txt@@
/- laws to paste: Road.backV, Road.chN, Road.codOf (cut by pick.py; bodies as the Statement names them) -/
namespace Jvm.Pilot.@@N@@
namespace StrChars
open Jvm Sem ClassFile Op Lib Jvm.Stand Jvm.Free.XT Jvm.Free.ALB Jvm.Free.JM Jvm.Free
open Jvm.Lib.Cold (StaticIs)
/-- a char array whose places are chars -/
def Ch (a : Addr) (A : Cell) (U : State) : Prop := Arr .char a A U ∧ Typed .char A
theorem Ch.mv {a : Addr} {A : Cell} {U U' : State} (h : Ch a A U) (hal : U.vm.Alike U'.vm) (hh : U'.heap = U.heap) : Ch a A U' := ⟨h.1.mv hal hh, h.2⟩
theorem Ch.keep {a : Addr} {A : Cell} {U U' : State} (h : Ch a A U) (hal : U.vm.Alike U'.vm) (hk : U'.heap[a]? = some A) : Ch a A U' := ⟨h.1.keep hal hk, h.2⟩
/-- what place i of a char[]'s cell holds -/
def cv (A : Cell) (i : Nat) : Int32 := match A.slots[i]? with | some (.int x) => x | _ => 0
theorem Ch.get {a : Addr} {A : Cell} {U : State} (h : Ch a A U) {i : Nat} (hi : i < A.slots.size) : A.slots[i]? = some (.int (cv A i)) := by
  have e := Array.getElem?_eq_getElem hi
  have f := h.2 i _ e
  unfold cv; rw [e]
  generalize A.slots[i] = v at f
  cases v <;> simp [fits] at f ⊢
/-- the byte that i2b leaves of a char -/
def lo8 (x : Int32) : Int32 := x.toInt8.toInt32
theorem fits_lo8 (y : Int32) : fits .byte (.int (lo8 y)) = true := by
  have h1 := y.toInt8.le_toInt
  have h2 := y.toInt8.toInt_lt
  simp only [lo8, fits, Bool.and_eq_true, decide_eq_true_eq, Int32.le_iff_toInt_le, Int8.toInt_toInt32, show (-128 : Int32).toInt = -128 from by decide, show (127 : Int32).toInt = 127 from by decide]
  omega
/-- A' is A but that each place j of lo .. hi - 1 holds f j -/
def Laid (A A' : Cell) (lo hi : Nat) (f : Nat → Value) : Prop := A'.cls = A.cls ∧ A'.vm = A.vm ∧ A'.slots.size = A.slots.size ∧ ∀ i, A'.slots[i]? = if lo ≤ i ∧ i < hi then some (f i) else A.slots[i]?
theorem Laid.zero (A : Cell) (lo : Nat) (f : Nat → Value) : Laid A A lo (lo + 0) f := ⟨rfl, rfl, rfl, fun i => by rw [if_neg (by omega)]⟩
theorem Laid.step {A Ak : Cell} {lo k : Nat} {f : Nat → Value} {v : Value} (h : Laid A Ak lo k f) (hlo : lo ≤ k) (hk : k < Ak.slots.size) (hv : v = f k) : Laid A (Ak.setSlot k v) lo (k + 1) f := by
  refine ⟨h.1, h.2.1, by simpa [Cell.setSlot] using h.2.2.1, fun i => ?_⟩
  by_cases e : k = i
  · subst e; rw [Cell.slots_setSlot_self v hk, if_pos (by omega), hv]
  · rw [Cell.slots_setSlot_ne v e, h.2.2.2 i]
    by_cases q : lo ≤ i ∧ i < k
    · rw [if_pos q, if_pos (by omega)]
    · rw [if_neg q, if_neg (by omega)]
def U16 : String := "java/lang/StringUTF16"
namespace Cmp5
def yN : MethodName := ⟨"java/lang/StringUTF16", "compress", "([CI[BII)I"⟩
abbrev yB : ByteArray := jdk_52_method_21_code
theorem d0 : decode yB 0 = .ok (.iconst 0, 1) := by decide +kernel
theorem d1 : decode yB 1 = .ok (.istore 5, 2) := by decide +kernel
theorem d3 : decode yB 3 = .ok (.iload 5, 2) := by decide +kernel
theorem d5 : decode yB 5 = .ok (.iload 4, 2) := by decide +kernel
theorem d7 : decode yB 7 = .ok (.if_icmp (.ge) 37, 3) := by decide +kernel
theorem d10 : decode yB 10 = .ok (.aload_n 0, 1) := by decide +kernel
theorem d11 : decode yB 11 = .ok (.iload_n 1, 1) := by decide +kernel
theorem d12 : decode yB 12 = .ok (.caload, 1) := by decide +kernel
theorem d13 : decode yB 13 = .ok (.istore 6, 2) := by decide +kernel
theorem d15 : decode yB 15 = .ok (.iload 6, 2) := by decide +kernel
theorem d17 : decode yB 17 = .ok (.sipush 255, 3) := by decide +kernel
theorem d20 : decode yB 20 = .ok (.if_icmp (.le) 6, 3) := by decide +kernel
theorem d26 : decode yB 26 = .ok (.aload_n 2, 1) := by decide +kernel
theorem d27 : decode yB 27 = .ok (.iload_n 3, 1) := by decide +kernel
theorem d28 : decode yB 28 = .ok (.iload 6, 2) := by decide +kernel
theorem d30 : decode yB 30 = .ok (.i2b, 1) := by decide +kernel
theorem d31 : decode yB 31 = .ok (.bastore, 1) := by decide +kernel
theorem d32 : decode yB 32 = .ok (.iinc 1 1, 3) := by decide +kernel
theorem d35 : decode yB 35 = .ok (.iinc 3 1, 3) := by decide +kernel
theorem d38 : decode yB 38 = .ok (.iinc 5 1, 3) := by decide +kernel
theorem d41 : decode yB 41 = .ok (.goto (-38), 3) := by decide +kernel
theorem d44 : decode yB 44 = .ok (.iload 4, 2) := by decide +kernel
theorem d46 : decode yB 46 = .ok (.ireturn, 1) := by decide +kernel
def site : List Cond := []
def tab : Cond := tabOf yN yB 7 (some .int) site
def P (b : Addr) (A : Cell) (d : Addr) (B : Cell) (o q len : Nat) (args : Array Value) (s : State) : Prop := args = #[.ref b, .int (Int32.ofNat o), .ref d, .int (Int32.ofNat q), .int (Int32.ofNat len)] ∧ Ch b A s ∧ Arr .byte d B s ∧ b ≠ d ∧ o + len ≤ A.slots.size ∧ q + len ≤ B.slots.size ∧ ∀ i, i < len → ¬ 255 < cv A (o + i)
def E (b : Addr) (A : Cell) (d : Addr) (B : Cell) (o q len : Nat) (r : Option Value) (s u : State) : Prop := r = some (.int (Int32.ofNat len)) ∧ ∃ B', Put d B' s u ∧ Laid B B' q (q + len) (fun j => Value.int (lo8 (cv A (o + (j - q)))))
/-- no char of the range above 255: len; the places written hold each char's low byte -/
theorem law (l : Launch) (b : Addr) (A : Cell) (d : Addr) (B : Cell) (o q len : Nat) : Law l yN 5 5 0 0 yB 7 (some .int) site (P b A d B o q len) (E b A d B o q len) (copyLocs d q len) 0 0 := by
  refine Law.of_walk (plainFor_of_name (by decide +kernel)) (by decide +kernel) (by decide +kernel) (by decide) (fun _ _ h => by rw [h.1]; rfl) (fun _ U U' hal hh h => ⟨h.1, h.2.1.mv hal hh, h.2.2.1.mv hal hh, h.2.2.2⟩) (fun r U U' V V' h1 hal h2 h => ⟨h.1, h.2.elim fun B' q => ⟨B', q.1.mv h1 h2, q.2⟩⟩) ?_
  intro p e s m args below meth c s₁ X0 hexec hbytes hml hret hlk hnm hown hh0 W hP
  obtain ⟨rfl, hA, hB, hne, l1, l2, hp⟩ := hP
  have c1 : Steps p.tables e below (s₁.setTop (entryFrame m #[.ref b, .int (Int32.ofNat o), .ref d, .int (Int32.ofNat q), .int (Int32.ofNat len)] 7)) (s₁.setTop (mkF m 0 #[.val (.ref b), .val (.int (Int32.ofNat o)), .val (.ref d), .val (.int (Int32.ofNat q)), .val (.int (Int32.ofNat len)), .unset, .unset] [])) := entry rfl
  have hA0 := hA.1.mv X0.warmed.alike hh0
  have hB0 := hB.mv X0.warmed.alike hh0
  have a31 := hA.1.2.2.2
  have c2 : Steps p.tables e below (s₁.setTop (entryFrame m #[.ref b, .int (Int32.ofNat o), .ref d, .int (Int32.ofNat q), .int (Int32.ofNat len)] 7)) (s₁.setTop (mkF m 3 #[.val (.ref b), .val (.int (Int32.ofNat o)), .val (.ref d), .val (.int (Int32.ofNat q)), .val (.int (Int32.ofNat len)), .val (.int 0), .unset] [])) := c1.trans (by
    refine iconstV X0.here hexec rfl 0 (hb hbytes d0) (by decide) ?_
    refine XS.istore X0.here hexec rfl (hb hbytes d1) rfl rfl ?_
    exact Steps.refl _)
  have loop : ∀ (r i : Nat), i + r = len → ∀ (z : Slot), (z = .unset ∨ ∃ w, z = .val w ∧ w.category = 1) → ∀ (Tl : State) (Bk : Cell), Stand p l e { frames := 0, locals := 0, cells := 0, slots := 0 } s m #[.ref b, .int (Int32.ofNat o), .ref d, .int (Int32.ofNat q), .int (Int32.ofNat len)] below meth c Tl ([] ++ copyLocs d q i) 0 0 → Put d Bk s₁ Tl → Laid B Bk q (q + i) (fun j => Value.int (lo8 (cv A (o + (j - q))))) →
      Steps p.tables e below (s₁.setTop (entryFrame m #[.ref b, .int (Int32.ofNat o), .ref d, .int (Int32.ofNat q), .int (Int32.ofNat len)] 7)) (Tl.setTop (mkF m 3 #[.val (.ref b), .val (.int (Int32.ofNat (o + i))), .val (.ref d), .val (.int (Int32.ofNat (q + i))), .val (.int (Int32.ofNat len)), .val (.int (Int32.ofNat i)), z] [])) → ∃ (T' : State) (B' : Cell) (z' : Slot), Stand p l e { frames := 0, locals := 0, cells := 0, slots := 0 } s m #[.ref b, .int (Int32.ofNat o), .ref d, .int (Int32.ofNat q), .int (Int32.ofNat len)] below meth c T' ([] ++ copyLocs d q len) 0 0 ∧ Put d B' s₁ T' ∧ Laid B B' q (q + len) (fun j => Value.int (lo8 (cv A (o + (j - q))))) ∧
      Steps p.tables e below (s₁.setTop (entryFrame m #[.ref b, .int (Int32.ofNat o), .ref d, .int (Int32.ofNat q), .int (Int32.ofNat len)] 7)) (T'.setTop (mkF m 3 #[.val (.ref b), .val (.int (Int32.ofNat (o + len))), .val (.ref d), .val (.int (Int32.ofNat (q + len))), .val (.int (Int32.ofNat len)), .val (.int (Int32.ofNat len)), z'] [])) := by
    intro r
    induction r with
    | zero =>
      intro i hi z hz Tl Bk Xl pl fl cl
      have hil : i = len := by omega
      rw [hil] at Xl fl cl
      exact ⟨Tl, Bk, z, Xl, pl, fl, cl⟩
    | succ r ih =>
      intro i hi z hz Tl Bk Xl pl fl cl
      have all := X0.warmed.alike.symm.trans Xl.warmed.alike
      have hAl := hA0.keep all (pl.other hne hA0.1)
      have hBk := hB0.like all pl.1 fl.1 fl.2.1 fl.2.2.1
      have hlt : q + i < Bk.slots.size := by rw [fl.2.2.1]; omega
      have c3 : Steps p.tables e below (s₁.setTop (entryFrame m #[.ref b, .int (Int32.ofNat o), .ref d, .int (Int32.ofNat q), .int (Int32.ofNat len)] 7)) (Tl.setTop (mkF m 12 #[.val (.ref b), .val (.int (Int32.ofNat (o + i))), .val (.ref d), .val (.int (Int32.ofNat (q + i))), .val (.int (Int32.ofNat len)), .val (.int (Int32.ofNat i)), z] [.int (Int32.ofNat (o + i)), .ref b])) := cl.trans (by
        refine XS.iload Xl.here hexec rfl (hb hbytes d3) rfl ?_
        refine XS.iload Xl.here hexec rfl (hb hbytes d5) rfl ?_
        refine XS.icmpNo Xl.here hexec rfl (hb hbytes d7) rfl (ii_ge_f (lt32 (by omega) (by omega))) ?_
        refine XS.aloadN Xl.here hexec rfl (hb hbytes d10) rfl rfl ?_
        refine XS.iloadN Xl.here hexec rfl (hb hbytes d11) rfl ?_
        exact Steps.refl _)
      have c4 : Steps p.tables e below (s₁.setTop (entryFrame m #[.ref b, .int (Int32.ofNat o), .ref d, .int (Int32.ofNat q), .int (Int32.ofNat len)] 7)) (Tl.setTop (mkF m 13 #[.val (.ref b), .val (.int (Int32.ofNat (o + i))), .val (.ref d), .val (.int (Int32.ofNat (q + i))), .val (.int (Int32.ofNat len)), .val (.int (Int32.ofNat i)), z] [.int (cv A (o + i))])) := c3.trans (by
        refine Xl.aget hexec hAl rfl (hA.get (i := o + i) (by omega)) rfl rfl (hb hbytes d12) ?_
        exact Steps.refl _)
      have c5 : Steps p.tables e below (s₁.setTop (entryFrame m #[.ref b, .int (Int32.ofNat o), .ref d, .int (Int32.ofNat q), .int (Int32.ofNat len)] 7)) (Tl.setTop (mkF m 15 #[.val (.ref b), .val (.int (Int32.ofNat (o + i))), .val (.ref d), .val (.int (Int32.ofNat (q + i))), .val (.int (Int32.ofNat len)), .val (.int (Int32.ofNat i)), .val (.int (cv A (o + i)))] [])) := c4.trans (by
        refine XS.istoreS Xl.here hexec rfl (hb hbytes d13) rfl rfl hz ?_
        exact Steps.refl _)
      have c6 : Steps p.tables e below (s₁.setTop (entryFrame m #[.ref b, .int (Int32.ofNat o), .ref d, .int (Int32.ofNat q), .int (Int32.ofNat len)] 7)) (Tl.setTop (mkF m 31 #[.val (.ref b), .val (.int (Int32.ofNat (o + i))), .val (.ref d), .val (.int (Int32.ofNat (q + i))), .val (.int (Int32.ofNat len)), .val (.int (Int32.ofNat i)), .val (.int (cv A (o + i)))] [.int (lo8 (cv A (o + i))), .int (Int32.ofNat (q + i)), .ref d])) := c5.trans (by
        refine XS.iload Xl.here hexec rfl (hb hbytes d15) rfl ?_
        refine sipushV Xl.here hexec rfl 255 (hb hbytes d17) (by decide) ?_
        refine XS.icmpYes Xl.here hexec rfl (pc0 := 20) rfl (hb hbytes d20) rfl (ii_le_t (hp i (by omega))) (by decide) rfl ?_
        refine XS.aloadN Xl.here hexec rfl (hb hbytes d26) rfl rfl ?_
        refine XS.iloadN Xl.here hexec rfl (hb hbytes d27) rfl ?_
        refine XS.iload Xl.here hexec rfl (hb hbytes d28) rfl ?_
        refine i2b Xl.here hexec rfl (hb hbytes d30) rfl ?_
        exact Steps.refl _)
      obtain ⟨T7, X7, p7, st7⟩ := Xl.aput hexec hBk rfl hlt rfl (fits_lo8 (cv A (o + i))) (g := (mkF m 31 #[.val (.ref b), .val (.int (Int32.ofNat (o + i))), .val (.ref d), .val (.int (Int32.ofNat (q + i))), .val (.int (Int32.ofNat len)), .val (.int (Int32.ofNat i)), .val (.int (cv A (o + i)))] [.int (lo8 (cv A (o + i))), .int (Int32.ofNat (q + i)), .ref d])) rfl (rest := []) rfl (hb hbytes d31)
      have c8 : Steps p.tables e below (s₁.setTop (entryFrame m #[.ref b, .int (Int32.ofNat o), .ref d, .int (Int32.ofNat q), .int (Int32.ofNat len)] 7)) (T7.setTop (mkF m 32 #[.val (.ref b), .val (.int (Int32.ofNat (o + i))), .val (.ref d), .val (.int (Int32.ofNat (q + i))), .val (.int (Int32.ofNat len)), .val (.int (Int32.ofNat i)), .val (.int (cv A (o + i)))] [])) := c6.trans (st7 _ (Steps.refl _))
      have c9 : Steps p.tables e below (s₁.setTop (entryFrame m #[.ref b, .int (Int32.ofNat o), .ref d, .int (Int32.ofNat q), .int (Int32.ofNat len)] 7)) (T7.setTop (mkF m 3 #[.val (.ref b), .val (.int (Int32.ofNat (o + i) + 1)), .val (.ref d), .val (.int (Int32.ofNat (q + i) + 1)), .val (.int (Int32.ofNat len)), .val (.int (Int32.ofNat i + 1)), .val (.int (cv A (o + i)))] [])) := c8.trans (by
        refine iincV X7.here hexec rfl 1 (hb hbytes d32) (by decide) rfl rfl ?_
        refine iincV X7.here hexec rfl 1 (hb hbytes d35) (by decide) rfl rfl ?_
        refine iincV X7.here hexec rfl 1 (hb hbytes d38) (by decide) rfl rfl ?_
        refine XS.goto X7.here hexec rfl (pc0 := 41) rfl (hb hbytes d41) (by decide) rfl ?_
        exact Steps.refl _)
      have c10 : Steps p.tables e below (s₁.setTop (entryFrame m #[.ref b, .int (Int32.ofNat o), .ref d, .int (Int32.ofNat q), .int (Int32.ofNat len)] 7)) (T7.setTop (mkF m 3 #[.val (.ref b), .val (.int (Int32.ofNat (o + (i + 1)))), .val (.ref d), .val (.int (Int32.ofNat (q + (i + 1)))), .val (.int (Int32.ofNat len)), .val (.int (Int32.ofNat (i + 1))), .val (.int (cv A (o + i)))] [])) := by
        have := c9
        rw [succ32, succ32, succ32] at this
        exact this
      exact ih (i + 1) (by omega) _ (Or.inr ⟨_, rfl, rfl⟩) T7 _ (by rw [copyLocs_step, ← List.append_assoc]; exact X7) (pl.trans p7) (fl.step (by omega) hlt (by simp)) c10
  obtain ⟨T9, B9, z9, X9, p9, f9, g9⟩ := loop len 0 (by omega) .unset (Or.inl rfl) s₁ B (by simpa [copyLocs] using X0) ⟨hB0.1, fun _ _ => rfl, rfl⟩ (Laid.zero _ _ _) c2
  have c11 : Steps p.tables e below (s₁.setTop (entryFrame m #[.ref b, .int (Int32.ofNat o), .ref d, .int (Int32.ofNat q), .int (Int32.ofNat len)] 7)) (T9.setTop (mkF m 46 #[.val (.ref b), .val (.int (Int32.ofNat (o + len))), .val (.ref d), .val (.int (Int32.ofNat (q + len))), .val (.int (Int32.ofNat len)), .val (.int (Int32.ofNat len)), z9] [.int (Int32.ofNat len)])) := g9.trans (by
    refine XS.iload X9.here hexec rfl (hb hbytes d3) rfl ?_
    refine XS.iload X9.here hexec rfl (hb hbytes d5) rfl ?_
    refine XS.icmpYes X9.here hexec rfl (pc0 := 7) rfl (hb hbytes d7) rfl (ii_ge_t (nlt32 (by omega) (Nat.le_refl _))) (by decide) rfl ?_
    refine XS.iload X9.here hexec rfl (hb hbytes d44) rfl ?_
    exact Steps.refl _)
  exact ⟨T9, some (.int (Int32.ofNat len)), _, _, _, X9, by simp, rfl, rfl, (fun h => by cases h), ⟨rfl, B9, p9.from hh0, f9⟩, fun fs hl => c11.trans (X9.ireturnOut hexec hret rfl (Or.inl rfl) (hb hbytes d46) hl)⟩
end Cmp5
namespace Cmp3
def yN : MethodName := ⟨"java/lang/StringUTF16", "compress", "([CII)[B"⟩
abbrev yB : ByteArray := jdk_52_method_16_code
theorem d0 : decode yB 0 = .ok (.iload_n 2, 1) := by decide +kernel
theorem d1 : decode yB 1 = .ok (.newarray .byte, 2) := by decide +kernel
theorem d3 : decode yB 3 = .ok (.astore_n 3, 1) := by decide +kernel
theorem d4 : decode yB 4 = .ok (.aload_n 0, 1) := by decide +kernel
theorem d5 : decode yB 5 = .ok (.iload_n 1, 1) := by decide +kernel
theorem d6 : decode yB 6 = .ok (.aload_n 3, 1) := by decide +kernel
theorem d7 : decode yB 7 = .ok (.iconst 0, 1) := by decide +kernel
theorem d8 : decode yB 8 = .ok (.iload_n 2, 1) := by decide +kernel
theorem d9 : decode yB 9 = .ok (.invokestatic 115, 3) := by decide +kernel
theorem d12 : decode yB 12 = .ok (.istore 4, 2) := by decide +kernel
theorem d14 : decode yB 14 = .ok (.iload 4, 2) := by decide +kernel
theorem d16 : decode yB 16 = .ok (.iload_n 2, 1) := by decide +kernel
theorem d17 : decode yB 17 = .ok (.if_icmp (.eq) 40, 3) := by decide +kernel
theorem d57 : decode yB 57 = .ok (.aload_n 3, 1) := by decide +kernel
theorem d58 : decode yB 58 = .ok (.areturn, 1) := by decide +kernel
def site : List Cond := [.arrayClass .byte, Cmp5.tab] ++ staticW U16 115 Cmp5.yN
def tab : Cond := tabOf yN yB 6 (some (.array .byte)) site
def P (b : Addr) (A : Cell) (o len : Nat) (args : Array Value) (s : State) : Prop := args = #[.ref b, .int (Int32.ofNat o), .int (Int32.ofNat len)] ∧ Ch b A s ∧ o + len ≤ A.slots.size ∧ len ≤ 536870912 ∧ ∀ i, i < len → ¬ 255 < cv A (o + i)
def E (b : Addr) (A : Cell) (o len : Nat) (r : Option Value) (s u : State) : Prop := NewArr .byte "[B" len (fun j => .int (lo8 (cv A (o + j)))) r s u ∧ u.heap.size = s.heap.size + 1
/-- no char of the range above 255: a new byte[] of their low bytes -/
theorem law (l : Launch) (b : Addr) (A : Cell) (o len : Nat) : Law l yN 3 3 1 18 yB 6 (some (.array .byte)) site (P b A o len) (E b A o len) [] 1 len := by
  refine Law.of_walk (plainFor_of_name (by decide +kernel)) (by decide +kernel) (by decide +kernel) (by decide) (fun _ _ h => by rw [h.1]; rfl) (fun _ U U' hal hh h => ⟨h.1, h.2.1.mv hal hh, h.2.2⟩) (fun r U U' V V' h1 hal h2 h => ⟨NewArr.mv r U U' V V' h1 hal h2 h.1, by rw [h1, h2]; exact h.2⟩) ?_
  intro p e s m args below meth c s₁ X0 hexec hbytes hml hret hlk hnm hown hh0 W hP
  obtain ⟨rfl, hA, l1, l2, hp⟩ := hP
  have a31 := hA.1.2.2.2
  have c1 : Steps p.tables e below (s₁.setTop (entryFrame m #[.ref b, .int (Int32.ofNat o), .int (Int32.ofNat len)] 6)) (s₁.setTop (mkF m 0 #[.val (.ref b), .val (.int (Int32.ofNat o)), .val (.int (Int32.ofNat len)), .unset, .unset, .unset] [])) := entry rfl
  have c2 : Steps p.tables e below (s₁.setTop (entryFrame m #[.ref b, .int (Int32.ofNat o), .int (Int32.ofNat len)] 6)) (s₁.setTop (mkF m 1 #[.val (.ref b), .val (.int (Int32.ofNat o)), .val (.int (Int32.ofNat len)), .unset, .unset, .unset] [.int (Int32.ofNat len)])) := c1.trans (by
    refine XS.iloadN X0.here hexec rfl (hb hbytes d0) rfl ?_
    exact Steps.refl _)
  obtain ⟨T3, B3, X3, ba3, bs3, bv3, bh3, bf3, st3⟩ := X0.anew hexec (atype := .byte) (wk W (.arrayClass .byte)) rfl (by show len * 1 ≤ _; omega) (by omega) (g := (mkF m 1 #[.val (.ref b), .val (.int (Int32.ofNat o)), .val (.int (Int32.ofNat len)), .unset, .unset, .unset] [.int (Int32.ofNat len)])) rfl (hb hbytes d1) (rest := []) rfl (Nat.le_refl _) (by show 0 + len ≤ len; omega)
  rw [hh0] at ba3 st3
  have kp3 : XT.Kept s T3 := (XT.Kept.of_eq hh0).push bh3
  have hA3 := hA.keep X3.warmed.alike (kp3 _ _ hA.1.1)
  have hne : b ≠ s.heap.size := hA.1.ne
  have c4 : Steps p.tables e below (s₁.setTop (entryFrame m #[.ref b, .int (Int32.ofNat o), .int (Int32.ofNat len)] 6)) (T3.setTop (mkF m 3 #[.val (.ref b), .val (.int (Int32.ofNat o)), .val (.int (Int32.ofNat len)), .unset, .unset, .unset] [.ref s.heap.size])) := c2.trans (st3 _ (Steps.refl _))
  have c5 : Steps p.tables e below (s₁.setTop (entryFrame m #[.ref b, .int (Int32.ofNat o), .int (Int32.ofNat len)] 6)) (T3.setTop (mkF m 9 #[.val (.ref b), .val (.int (Int32.ofNat o)), .val (.int (Int32.ofNat len)), .val (.ref s.heap.size), .unset, .unset] [.int (Int32.ofNat len), .int 0, .ref s.heap.size, .int (Int32.ofNat o), .ref b])) := c4.trans (by
    refine XS.astoreN X3.here hexec rfl (hb hbytes d3) rfl rfl rfl ?_
    refine XS.aloadN X3.here hexec rfl (hb hbytes d4) rfl rfl ?_
    refine XS.iloadN X3.here hexec rfl (hb hbytes d5) rfl ?_
    refine XS.aloadN X3.here hexec rfl (hb hbytes d6) rfl rfl ?_
    refine iconstV X3.here hexec rfl 0 (hb hbytes d7) (by decide) ?_
    refine XS.iloadN X3.here hexec rfl (hb hbytes d8) rfl ?_
    exact Steps.refl _)
  obtain ⟨v6, T6, X6, E6, g6⟩ := X3.callS hexec (Cmp5.law l b A s.heap.size B3 o 0 len) hown (wks W (staticW U16 115 Cmp5.yN)) (wk W Cmp5.tab) (W := 0) (Nat.le_of_ble_eq_true rfl) (Nat.le_of_ble_eq_true rfl) (Nat.le_refl _) (by show 0 + len + 0 ≤ len; omega) (g := (mkF m 9 #[.val (.ref b), .val (.int (Int32.ofNat o)), .val (.int (Int32.ofNat len)), .val (.ref s.heap.size), .unset, .unset] [.int (Int32.ofNat len), .int (Int32.ofNat 0), .ref s.heap.size, .int (Int32.ofNat o), .ref b])) rfl (by rw [hml]; rfl) c5 (argsL := [.ref b, .int (Int32.ofNat o), .ref s.heap.size, .int (Int32.ofNat 0), .int (Int32.ofNat len)]) (rest := []) rfl rfl (by show 2 * 0 + 0 ≤ _; decide) (hb hbytes d9) (⟨rfl, hA3, ba3, hne, l1, by rw [bs3]; simp, hp⟩)
  obtain ⟨rfl, B6, p6, f6⟩ := E6
  have c7 : Steps p.tables e below (s₁.setTop (entryFrame m #[.ref b, .int (Int32.ofNat o), .int (Int32.ofNat len)] 6)) (T6.setTop (mkF m 12 #[.val (.ref b), .val (.int (Int32.ofNat o)), .val (.int (Int32.ofNat len)), .val (.ref s.heap.size), .unset, .unset] [.int (Int32.ofNat len)])) := g6
  have c8 : Steps p.tables e below (s₁.setTop (entryFrame m #[.ref b, .int (Int32.ofNat o), .int (Int32.ofNat len)] 6)) (T6.setTop (mkF m 58 #[.val (.ref b), .val (.int (Int32.ofNat o)), .val (.int (Int32.ofNat len)), .val (.ref s.heap.size), .val (.int (Int32.ofNat len)), .unset] [.ref s.heap.size])) := c7.trans (by
    refine XS.istore X6.here hexec rfl (hb hbytes d12) rfl rfl ?_
    refine XS.iload X6.here hexec rfl (hb hbytes d14) rfl ?_
    refine XS.iloadN X6.here hexec rfl (hb hbytes d16) rfl ?_
    refine XS.icmpYes X6.here hexec rfl (pc0 := 17) rfl (hb hbytes d17) rfl (ii_eq_t rfl) (by decide) rfl ?_
    refine XS.aloadN X6.here hexec rfl (hb hbytes d57) rfl rfl ?_
    exact Steps.refl _)
  have X8 := X6.wide (L' := []) (cells' := 1) (slots' := len) (fun x hx hlt => by
    simp only [List.nil_append, copyLocs, List.mem_map, List.mem_range] at hx
    obtain ⟨i, -, rfl⟩ := hx
    exact absurd hlt (Nat.lt_irrefl _)) (Nat.le_refl _) (by omega)
  exact ⟨T6, some (.ref s.heap.size), _, _, _, X8, rfl, rfl, rfl, (fun h => by cases h), ⟨⟨rfl, B6, ba3.like (X3.warmed.alike.symm.trans X6.warmed.alike) p6.1 f6.1 f6.2.1 f6.2.2.1, f6.2.1.trans bv3, by rw [X6.warmed.alike.findClass, f6.1]; exact bf3, by rw [f6.2.2.1, bs3]; simp, fun j hj => by rw [f6.2.2.2 j, if_pos (by omega)]; rfl, kp3.put p6 (Nat.le_refl _)⟩, by rw [p6.2.2, bh3, hh0]; simp⟩, fun fs hl => c8.trans (X8.areturnOut hexec rfl hret rfl (hb hbytes d58) hl)⟩
end Cmp3
namespace CodL
def yN : MethodName := ⟨"java/lang/StringUTF16", "coderFromArrayLen", "([BI)B"⟩
abbrev yB : ByteArray := jdk_52_method_15_code
theorem d0 : decode yB 0 = .ok (.iload_n 1, 1) := by decide +kernel
theorem d1 : decode yB 1 = .ok (.aload_n 0, 1) := by decide +kernel
theorem d2 : decode yB 2 = .ok (.arraylength, 1) := by decide +kernel
theorem d3 : decode yB 3 = .ok (.isub, 1) := by decide +kernel
theorem d4 : decode yB 4 = .ok (.bipush 31, 2) := by decide +kernel
theorem d6 : decode yB 6 = .ok (.iushr, 1) := by decide +kernel
theorem d7 : decode yB 7 = .ok (.i2b, 1) := by decide +kernel
theorem d8 : decode yB 8 = .ok (.ireturn, 1) := by decide +kernel
def site : List Cond := []
def tab : Cond := tabOf yN yB 2 (some .byte) site
def P (d : Addr) (B : Cell) (args : Array Value) (s : State) : Prop := args = #[.ref d, .int (Int32.ofNat B.slots.size)] ∧ Arr .byte d B s
def E (r : Option Value) (s u : State) : Prop := XT.PureE (some (.int 0)) r s u
/-- an array as long as the number of chars: LATIN1 -/
theorem law (l : Launch) (d : Addr) (B : Cell) : Law l yN 2 2 0 0 yB 2 (some .byte) site (P d B) E [] 0 0 := by
  refine Law.of_walk (plainFor_of_name (by decide +kernel)) (by decide +kernel) (by decide +kernel) (by decide) (fun _ _ h => by rw [h.1]; rfl) (fun _ U U' hal hh h => ⟨h.1, h.2.mv hal hh⟩) (fun r U U' V V' h1 hal h2 h => XT.PureE.mv r U U' V V' h1 hal h2 h) ?_
  intro p e s m args below meth c s₁ X0 hexec hbytes hml hret hlk hnm hown hh0 W hP
  obtain ⟨rfl, hB⟩ := hP
  have hB0 := hB.mv X0.warmed.alike hh0
  have c1 : Steps p.tables e below (s₁.setTop (entryFrame m #[.ref d, .int (Int32.ofNat B.slots.size)] 2)) (s₁.setTop (mkF m 0 #[.val (.ref d), .val (.int (Int32.ofNat B.slots.size))] [])) := entry rfl
  have c2 : Steps p.tables e below (s₁.setTop (entryFrame m #[.ref d, .int (Int32.ofNat B.slots.size)] 2)) (s₁.setTop (mkF m 2 #[.val (.ref d), .val (.int (Int32.ofNat B.slots.size))] [.ref d, .int (Int32.ofNat B.slots.size)])) := c1.trans (by
    refine XS.iloadN X0.here hexec rfl (hb hbytes d0) rfl ?_
    refine XS.aloadN X0.here hexec rfl (hb hbytes d1) rfl rfl ?_
    exact Steps.refl _)
  have c3 : Steps p.tables e below (s₁.setTop (entryFrame m #[.ref d, .int (Int32.ofNat B.slots.size)] 2)) (s₁.setTop (mkF m 8 #[.val (.ref d), .val (.int (Int32.ofNat B.slots.size))] [.int (lo8 (ushr (Int32.ofNat B.slots.size - Int32.ofNat B.slots.size) 31))])) := c2.trans (by
    refine X0.alen hexec hB0 rfl rfl (hb hbytes d2) ?_
    refine XS.isub X0.here hexec rfl (hb hbytes d3) rfl ?_
    refine bipushV X0.here hexec rfl 31 (hb hbytes d4) (by decide) ?_
    refine iushr X0.here hexec rfl (hb hbytes d6) rfl ?_
    refine i2b X0.here hexec rfl (hb hbytes d7) rfl ?_
    exact Steps.refl _)
  have e0 : lo8 (ushr (Int32.ofNat B.slots.size - Int32.ofNat B.slots.size) 31) = 0 := by rw [Int32.sub_self]; decide
  rw [e0] at c3
  exact ⟨s₁, some (.int 0), _, _, _, X0, rfl, rfl, rfl, (fun h => by cases h), ⟨rfl, hh0⟩, fun fs hl => c3.trans (X0.ireturnOut hexec hret rfl (Or.inr (Or.inr (Or.inl rfl))) (hb hbytes d8) hl)⟩
end CodL
/-- the String at a is Latin-1 over a new byte[] (the heap's one new cell): the low bytes of the len chars of A from o on; every cell but a is kept -/
def Got (a : Addr) (D : Cell) (fV fC : Field) (A : Cell) (o len : Nat) (r : Option Value) (s u : State) : Prop := r = none ∧ ∃ D' V : Cell, Blank "java/lang/String" a D' u ∧ Same D D' [fV.slot, fC.slot] ∧ D'.slots[fV.slot]? = some (.ref s.heap.size) ∧ D'.slots[fC.slot]? = some (.int 0) ∧ Arr .byte s.heap.size V u ∧ V.vm = .none ∧ u.vm.findClass "[B" = some V.cls ∧ V.slots.size = len ∧ (∀ j, j < len → V.slots[j]? = some (.int (lo8 (cv A (o + j))))) ∧ (∀ (y : Addr) (c : Cell), y ≠ a → s.heap[y]? = some c → u.heap[y]? = some c) ∧ u.heap.size = s.heap.size + 1
theorem Got.mv {a : Addr} {D A : Cell} {fV fC : Field} {o len : Nat} : ∀ r (U U' V V' : State), U'.heap = U.heap → V.vm.Alike V'.vm → V'.heap = V.heap → Got a D fV fC A o len r U V → Got a D fV fC A o len r U' V' :=
  fun r U U' V V' h1 hal h2 ⟨e0, D', X, a1, a2, a3, a4, a5, a6, a7, a8, a9, a10, a11⟩ => ⟨e0, D', X, a1.mv hal h2, a2, by rw [h1]; exact a3, a4, by rw [h1]; exact a5.mv hal h2, a6, by rw [hal.findClass]; exact a7, a8, a9, by rw [h1, h2]; exact a10, by rw [h1, h2]; exact a11⟩
namespace New4
def yN : MethodName := ⟨"java/lang/String", "<init>", "([CIILjava/lang/Void;)V"⟩
abbrev yB : ByteArray := jdk_42_method_149_code
theorem d0 : decode yB 0 = .ok (.aload_n 0, 1) := by decide +kernel
theorem d1 : decode yB 1 = .ok (.invokespecial 1, 3) := by decide +kernel
theorem d4 : decode yB 4 = .ok (.iload_n 3, 1) := by decide +kernel
theorem d5 : decode yB 5 = .ok (.ifCond (.ne) 22, 3) := by decide +kernel
theorem d27 : decode yB 27 = .ok (.getstatic 38, 3) := by decide +kernel
theorem d30 : decode yB 30 = .ok (.ifCond (.eq) 28, 3) := by decide +kernel
theorem d33 : decode yB 33 = .ok (.aload_n 1, 1) := by decide +kernel
theorem d34 : decode yB 34 = .ok (.iload_n 2, 1) := by decide +kernel
theorem d35 : decode yB 35 = .ok (.iload_n 3, 1) := by decide +kernel
theorem d36 : decode yB 36 = .ok (.invokestatic 177, 3) := by decide +kernel
theorem d39 : decode yB 39 = .ok (.astore 5, 2) := by decide +kernel
theorem d41 : decode yB 41 = .ok (.aload_n 0, 1) := by decide +kernel
theorem d42 : decode yB 42 = .ok (.aload 5, 2) := by decide +kernel
theorem d44 : decode yB 44 = .ok (.iload_n 3, 1) := by decide +kernel
theorem d45 : decode yB 45 = .ok (.invokestatic 47, 3) := by decide +kernel
theorem d48 : decode yB 48 = .ok (.putfield 15, 3) := by decide +kernel
theorem d51 : decode yB 51 = .ok (.aload_n 0, 1) := by decide +kernel
theorem d52 : decode yB 52 = .ok (.aload 5, 2) := by decide +kernel
theorem d54 : decode yB 54 = .ok (.putfield 9, 3) := by decide +kernel
theorem d57 : decode yB 57 = .ok (.return_, 1) := by decide +kernel
def site : List Cond := [.fieldLink "java/lang/String" 38 "java/lang/String" "COMPACT_STRINGS" "Z", Cmp3.tab, CodL.tab, .laysFinal "java/lang/String" "java/lang/String" "value" "[B", .fieldLink "java/lang/String" 9 "java/lang/String" "value" "[B", .laysFinal "java/lang/String" "java/lang/String" "coder" "B", .fieldLink "java/lang/String" 15 "java/lang/String" "coder" "B"] ++ objW "java/lang/String" 1 ++ staticW "java/lang/String" 177 Cmp3.yN ++ staticW "java/lang/String" 47 CodL.yN
def tab : Cond := tabOf yN yB 6 none site
def P (a : Addr) (D : Cell) (fV fC : Field) (b : Addr) (A : Cell) (z : Int32) (o len : Nat) (args : Array Value) (s : State) : Prop := args = #[.ref a, .ref b, .int (Int32.ofNat o), .int (Int32.ofNat len), .null] ∧ Blank "java/lang/String" a D s ∧ Found "java/lang/String" "value" "[B" fV s ∧ Found "java/lang/String" "coder" "B" fC s ∧ Ch b A s ∧ StaticIs s "java/lang/String" "COMPACT_STRINGS" "Z" (.int z) ∧ ¬ z = 0 ∧ 0 < len ∧ o + len ≤ A.slots.size ∧ len ≤ 536870912 ∧ ∀ i, i < len → ¬ 255 < cv A (o + i)
def E (a : Addr) (D : Cell) (fV fC : Field) (A : Cell) (o len : Nat) (r : Option Value) (s u : State) : Prop := Got a D fV fC A o len r s u
/-- len > 0, no char of the range above 255: a Latin-1 String of their low bytes -/
theorem law (l : Launch) (a : Addr) (D : Cell) (fV fC : Field) (b : Addr) (A : Cell) (z : Int32) (o len : Nat) : Law l yN 5 4 2 35 yB 6 none site (P a D fV fC b A z o len) (E a D fV fC A o len) [⟨a, fC.slot⟩, ⟨a, fV.slot⟩] 1 len := by
  refine Law.of_walk (plainFor_of_name (by decide +kernel)) (by decide +kernel) (by decide +kernel) (by decide) (fun _ _ h => by rw [h.1]; rfl) (fun _ U U' hal hh h => ⟨h.1, h.2.1.mv hal hh, h.2.2.1.al hal, h.2.2.2.1.al hal, h.2.2.2.2.1.mv hal hh, h.2.2.2.2.2.1.there hal hh, h.2.2.2.2.2.2⟩) (fun r U U' V V' h1 hal h2 h => Got.mv r U U' V V' h1 hal h2 h) ?_
  intro p e s m args below meth c s₁ X0 hexec hbytes hml hret hlk hnm hown hh0 W hP
  obtain ⟨rfl, hB, f1, f2, hA, s1, hz, l0, l1, l2, hp⟩ := hP
  have a31 := hA.1.2.2.2
  have c1 : Steps p.tables e below (s₁.setTop (entryFrame m #[.ref a, .ref b, .int (Int32.ofNat o), .int (Int32.ofNat len), .null] 6)) (s₁.setTop (mkF m 0 #[.val (.ref a), .val (.ref b), .val (.int (Int32.ofNat o)), .val (.int (Int32.ofNat len)), .val .null, .unset] [])) := entry rfl
  have c2 : Steps p.tables e below (s₁.setTop (entryFrame m #[.ref a, .ref b, .int (Int32.ofNat o), .int (Int32.ofNat len), .null] 6)) (s₁.setTop (mkF m 1 #[.val (.ref a), .val (.ref b), .val (.int (Int32.ofNat o)), .val (.int (Int32.ofNat len)), .val .null, .unset] [.ref a])) := c1.trans (by
    refine XS.aloadN X0.here hexec rfl (hb hbytes d0) rfl rfl ?_
    exact Steps.refl _)
  obtain ⟨T3, X3, q3, st3⟩ := X0.oinit hexec hown (wks W (objW "java/lang/String" 1)) (g := (mkF m 1 #[.val (.ref a), .val (.ref b), .val (.int (Int32.ofNat o)), .val (.int (Int32.ofNat len)), .val .null, .unset] [.ref a])) rfl (by rw [hml]; rfl) (rest := []) rfl (hb hbytes d1) (W := 0) (by show 2 * 0 + 0 ≤ _; decide) (Nat.le_of_ble_eq_true rfl) (Nat.le_of_ble_eq_true rfl)
  have hh3 := q3.trans hh0
  have c4 : Steps p.tables e below (s₁.setTop (entryFrame m #[.ref a, .ref b, .int (Int32.ofNat o), .int (Int32.ofNat len), .null] 6)) (T3.setTop (mkF m 27 #[.val (.ref a), .val (.ref b), .val (.int (Int32.ofNat o)), .val (.int (Int32.ofNat len)), .val .null, .unset] [])) := (c2.trans (st3 _ (Steps.refl _))).trans (by
    refine XS.iloadN X3.here hexec rfl (hb hbytes d4) rfl ?_
    refine XS.ifYes X3.here hexec rfl (pc0 := 5) rfl (hb hbytes d5) rfl (i0_ne_t (nz32 (by omega) l0)) (by decide) rfl ?_
    exact Steps.refl _)
  obtain ⟨T5, X5, q5, st5⟩ := X3.sget hexec hown (wk W (.fieldLink "java/lang/String" 38 "java/lang/String" "COMPACT_STRINGS" "Z")) s1 (fun _ _ h => by rw [hh3]; exact h) (g := (mkF m 27 #[.val (.ref a), .val (.ref b), .val (.int (Int32.ofNat o)), .val (.int (Int32.ofNat len)), .val .null, .unset] [])) rfl (hb hbytes d27)
  have hh5 := q5.trans hh3
  have c6 : Steps p.tables e below (s₁.setTop (entryFrame m #[.ref a, .ref b, .int (Int32.ofNat o), .int (Int32.ofNat len), .null] 6)) (T5.setTop (mkF m 30 #[.val (.ref a), .val (.ref b), .val (.int (Int32.ofNat o)), .val (.int (Int32.ofNat len)), .val .null, .unset] [.int z])) := c4.trans (st5 _ (Steps.refl _))
  have c7 : Steps p.tables e below (s₁.setTop (entryFrame m #[.ref a, .ref b, .int (Int32.ofNat o), .int (Int32.ofNat len), .null] 6)) (T5.setTop (mkF m 36 #[.val (.ref a), .val (.ref b), .val (.int (Int32.ofNat o)), .val (.int (Int32.ofNat len)), .val .null, .unset] [.int (Int32.ofNat len), .int (Int32.ofNat o), .ref b])) := c6.trans (by
    refine XS.ifNo X5.here hexec rfl (hb hbytes d30) rfl (i0_eq_f hz) ?_
    refine XS.aloadN X5.here hexec rfl (hb hbytes d33) rfl rfl ?_
    refine XS.iloadN X5.here hexec rfl (hb hbytes d34) rfl ?_
    refine XS.iloadN X5.here hexec rfl (hb hbytes d35) rfl ?_
    exact Steps.refl _)
  obtain ⟨v8, T8, X8, E8, g8⟩ := X5.callS hexec (Cmp3.law l b A o len) hown (wks W (staticW "java/lang/String" 177 Cmp3.yN)) (wk W Cmp3.tab) (W := 0) (Nat.le_of_ble_eq_true rfl) (Nat.le_of_ble_eq_true rfl) (Nat.le_refl _) (by show 0 + len ≤ len; omega) (g := (mkF m 36 #[.val (.ref a), .val (.ref b), .val (.int (Int32.ofNat o)), .val (.int (Int32.ofNat len)), .val .null, .unset] [.int (Int32.ofNat len), .int (Int32.ofNat o), .ref b])) rfl (by rw [hml]; rfl) c7 (argsL := [.ref b, .int (Int32.ofNat o), .int (Int32.ofNat len)]) (rest := []) rfl rfl (by show 2 * 0 + 0 ≤ _; decide) (hb hbytes d36) (⟨rfl, hA.mv X5.warmed.alike hh5, l1, l2, hp⟩)
  obtain ⟨e8, z8⟩ := E8
  obtain ⟨rfl, N, n1, n2, n3, n4, n5, n6⟩ := NewArr.mv _ T5 s _ _ hh5.symm (Vm.Alike.refl _) rfl e8
  rw [hh5] at z8
  have hB1 := hB.keep X8.warmed.alike (n6 _ _ hB.1)
  have hne : s.heap.size ≠ a := (Nat.ne_of_lt (Array.getElem?_eq_some_iff.mp hB.1).1).symm
  have c9 : Steps p.tables e below (s₁.setTop (entryFrame m #[.ref a, .ref b, .int (Int32.ofNat o), .int (Int32.ofNat len), .null] 6)) (T8.setTop (mkF m 39 #[.val (.ref a), .val (.ref b), .val (.int (Int32.ofNat o)), .val (.int (Int32.ofNat len)), .val .null, .unset] [.ref s.heap.size])) := g8
  have c10 : Steps p.tables e below (s₁.setTop (entryFrame m #[.ref a, .ref b, .int (Int32.ofNat o), .int (Int32.ofNat len), .null] 6)) (T8.setTop (mkF m 45 #[.val (.ref a), .val (.ref b), .val (.int (Int32.ofNat o)), .val (.int (Int32.ofNat len)), .val .null, .val (.ref s.heap.size)] [.int (Int32.ofNat N.slots.size), .ref s.heap.size, .ref a])) := by
    have hc : Steps p.tables e below (s₁.setTop (entryFrame m #[.ref a, .ref b, .int (Int32.ofNat o), .int (Int32.ofNat len), .null] 6)) (T8.setTop (mkF m 45 #[.val (.ref a), .val (.ref b), .val (.int (Int32.ofNat o)), .val (.int (Int32.ofNat len)), .val .null, .val (.ref s.heap.size)] [.int (Int32.ofNat len), .ref s.heap.size, .ref a])) := c9.trans (by
      refine XS.astore X8.here hexec rfl (hb hbytes d39) rfl rfl rfl ?_
      refine XS.aloadN X8.here hexec rfl (hb hbytes d41) rfl rfl ?_
      refine XS.aload X8.here hexec rfl (hb hbytes d42) rfl rfl ?_
      refine XS.iloadN X8.here hexec rfl (hb hbytes d44) rfl ?_
      exact Steps.refl _)
    rw [n4]; exact hc
  obtain ⟨v11, T11, X11, E11, g11⟩ := X8.callS hexec (CodL.law l s.heap.size N) hown (wks W (staticW "java/lang/String" 47 CodL.yN)) (wk W CodL.tab) (W := 1) (Nat.le_of_ble_eq_true rfl) (Nat.le_of_ble_eq_true rfl) (Nat.le_refl _) (by show 0 + len + 0 ≤ len; omega) (g := (mkF m 45 #[.val (.ref a), .val (.ref b), .val (.int (Int32.ofNat o)), .val (.int (Int32.ofNat len)), .val .null, .val (.ref s.heap.size)] [.int (Int32.ofNat N.slots.size), .ref s.heap.size, .ref a])) rfl (by rw [hml]; rfl) c10 (argsL := [.ref s.heap.size, .int (Int32.ofNat N.slots.size)]) (rest := [.ref a]) rfl rfl (by show 2 * 0 + (1 + 0) ≤ _; decide) (hb hbytes d45) (⟨rfl, n1⟩)
  obtain ⟨rfl, q11⟩ := E11
  have hB11 := hB1.mv (X8.warmed.alike.symm.trans X11.warmed.alike) q11
  have c12 : Steps p.tables e below (s₁.setTop (entryFrame m #[.ref a, .ref b, .int (Int32.ofNat o), .int (Int32.ofNat len), .null] 6)) (T11.setTop (mkF m 48 #[.val (.ref a), .val (.ref b), .val (.int (Int32.ofNat o)), .val (.int (Int32.ofNat len)), .val .null, .val (.ref s.heap.size)] [.int 0, .ref a])) := g11
  obtain ⟨T13, X13, p13, bl13, sl13, st13⟩ := X11.finit hexec hown (wk W (.fieldLink "java/lang/String" 15 "java/lang/String" "coder" "B")) (Or.inr ⟨_, (wk W (.laysFinal "java/lang/String" "java/lang/String" "coder" "B"))⟩) (Or.inl ⟨rfl, hnm⟩) f2 (Or.inl rfl) hB11 (t := .byte) (by decide +kernel) rfl (g := (mkF m 48 #[.val (.ref a), .val (.ref b), .val (.int (Int32.ofNat o)), .val (.int (Int32.ofNat len)), .val .null, .val (.ref s.heap.size)] [.int 0, .ref a])) rfl (rest := []) rfl (hb hbytes d48)
  have c14 : Steps p.tables e below (s₁.setTop (entryFrame m #[.ref a, .ref b, .int (Int32.ofNat o), .int (Int32.ofNat len), .null] 6)) (T13.setTop (mkF m 54 #[.val (.ref a), .val (.ref b), .val (.int (Int32.ofNat o)), .val (.int (Int32.ofNat len)), .val .null, .val (.ref s.heap.size)] [.ref s.heap.size, .ref a])) := (c12.trans (st13 _ (Steps.refl _))).trans (by
    refine XS.aloadN X13.here hexec rfl (hb hbytes d51) rfl rfl ?_
    refine XS.aload X13.here hexec rfl (hb hbytes d52) rfl rfl ?_
    exact Steps.refl _)
  obtain ⟨T15, X15, p15, bl15, sl15, st15⟩ := X13.finit hexec hown (wk W (.fieldLink "java/lang/String" 9 "java/lang/String" "value" "[B")) (Or.inr ⟨_, (wk W (.laysFinal "java/lang/String" "java/lang/String" "value" "[B"))⟩) (Or.inl ⟨rfl, hnm⟩) f1 (Or.inl rfl) bl13 (t := (.array .byte)) (by decide +kernel) rfl (g := (mkF m 54 #[.val (.ref a), .val (.ref b), .val (.int (Int32.ofNat o)), .val (.int (Int32.ofNat len)), .val .null, .val (.ref s.heap.size)] [.ref s.heap.size, .ref a])) rfl (rest := []) rfl (hb hbytes d54)
  have c16 : Steps p.tables e below (s₁.setTop (entryFrame m #[.ref a, .ref b, .int (Int32.ofNat o), .int (Int32.ofNat len), .null] 6)) (T15.setTop (mkF m 57 #[.val (.ref a), .val (.ref b), .val (.int (Int32.ofNat o)), .val (.int (Int32.ofNat len)), .val .null, .val (.ref s.heap.size)] [])) := c14.trans (st15 _ (Steps.refl _))
  have ap := apart (Or.inr ⟨_, (wk W (.laysFinal "java/lang/String" "java/lang/String" "value" "[B"))⟩) (Or.inr ⟨_, (wk W (.laysFinal "java/lang/String" "java/lang/String" "coder" "B"))⟩) f1 f2 (t₁ := .array .byte) (t₂ := .byte) (by decide +kernel) (by decide +kernel) (by decide)
  have al := X8.warmed.alike.symm.trans X15.warmed.alike
  have n7 : T11.heap[s.heap.size]? = some N := by rw [q11]; exact n1.1
  exact ⟨T15, none, _, _, _, X15, by simp, rfl, by omega, (fun _ => rfl), ⟨rfl, _, N, bl15, ((Same.refl D _).set _ (by simp)).set _ (by simp), sl15, (Cell.slots_setSlot_ne _ ap).trans sl13, n1.keep al (p15.other hne (p13.other hne n7)), n2, by rw [al.findClass]; exact n3, n4, n5, fun y c h1 h2 => p15.other h1 (p13.other h1 (by rw [q11]; exact n6 y c h2)), by rw [p15.2.2, p13.2.2, q11]; exact z8⟩, fun fs hl => c16.trans (X15.returnOut hexec hret (hb hbytes d57) hl)⟩
end New4
namespace New1
def yN : MethodName := ⟨"java/lang/String", "<init>", "([C)V"⟩
abbrev yB : ByteArray := jdk_42_method_3_code
theorem d0 : decode yB 0 = .ok (.aload_n 0, 1) := by decide +kernel
theorem d1 : decode yB 1 = .ok (.aload_n 1, 1) := by decide +kernel
theorem d2 : decode yB 2 = .ok (.iconst 0, 1) := by decide +kernel
theorem d3 : decode yB 3 = .ok (.aload_n 1, 1) := by decide +kernel
theorem d4 : decode yB 4 = .ok (.arraylength, 1) := by decide +kernel
theorem d5 : decode yB 5 = .ok (.aconst_null, 1) := by decide +kernel
theorem d6 : decode yB 6 = .ok (.invokespecial 27, 3) := by decide +kernel
theorem d9 : decode yB 9 = .ok (.return_, 1) := by decide +kernel
def site : List Cond := [New4.tab] ++ initW "java/lang/String" 27 New4.yN
def tab : Cond := tabOf yN yB 2 none site
def P (a : Addr) (D : Cell) (fV fC : Field) (b : Addr) (A : Cell) (z : Int32) (args : Array Value) (s : State) : Prop := args = #[.ref a, .ref b] ∧ Blank "java/lang/String" a D s ∧ Found "java/lang/String" "value" "[B" fV s ∧ Found "java/lang/String" "coder" "B" fC s ∧ Ch b A s ∧ StaticIs s "java/lang/String" "COMPACT_STRINGS" "Z" (.int z) ∧ ¬ z = 0 ∧ 0 < A.slots.size ∧ A.slots.size ≤ 536870912 ∧ ∀ i, i < A.slots.size → ¬ 255 < cv A i
def E (a : Addr) (D : Cell) (fV fC : Field) (A : Cell) (r : Option Value) (s u : State) : Prop := Got a D fV fC A 0 A.slots.size r s u
/-- new String(chars), not empty, no char above 255: a Latin-1 String of their low bytes -/
theorem law (l : Launch) (a : Addr) (D : Cell) (fV fC : Field) (b : Addr) (A : Cell) (z : Int32) : Law l yN 2 1 3 52 yB 2 none site (P a D fV fC b A z) (E a D fV fC A) [⟨a, fC.slot⟩, ⟨a, fV.slot⟩] 1 A.slots.size := by
  refine Law.of_walk (plainFor_of_name (by decide +kernel)) (by decide +kernel) (by decide +kernel) (by decide) (fun _ _ h => by rw [h.1]; rfl) (fun _ U U' hal hh h => ⟨h.1, h.2.1.mv hal hh, h.2.2.1.al hal, h.2.2.2.1.al hal, h.2.2.2.2.1.mv hal hh, h.2.2.2.2.2.1.there hal hh, h.2.2.2.2.2.2⟩) (fun r U U' V V' h1 hal h2 h => Got.mv r U U' V V' h1 hal h2 h) ?_
  intro p e s m args below meth c s₁ X0 hexec hbytes hml hret hlk hnm hown hh0 W hP
  obtain ⟨rfl, hB, f1, f2, hA, s1, hz, l0, l2, hp⟩ := hP
  have c1 : Steps p.tables e below (s₁.setTop (entryFrame m #[.ref a, .ref b] 2)) (s₁.setTop (mkF m 0 #[.val (.ref a), .val (.ref b)] [])) := entry rfl
  have c2 : Steps p.tables e below (s₁.setTop (entryFrame m #[.ref a, .ref b] 2)) (s₁.setTop (mkF m 6 #[.val (.ref a), .val (.ref b)] [.null, .int (Int32.ofNat A.slots.size), .int 0, .ref b, .ref a])) := c1.trans (by
    refine XS.aloadN X0.here hexec rfl (hb hbytes d0) rfl rfl ?_
    refine XS.aloadN X0.here hexec rfl (hb hbytes d1) rfl rfl ?_
    refine iconstV X0.here hexec rfl 0 (hb hbytes d2) (by decide) ?_
    refine XS.aloadN X0.here hexec rfl (hb hbytes d3) rfl rfl ?_
    refine X0.alen hexec (hA.1.mv X0.warmed.alike hh0) rfl rfl (hb hbytes d4) ?_
    refine XS.aconstNull X0.here hexec rfl (hb hbytes d5) ?_
    exact Steps.refl _)
  obtain ⟨v3, T3, X3, E3, g3⟩ := X0.callN hexec (New4.law l a D fV fC b A z 0 A.slots.size) rfl hown (wks W (initW "java/lang/String" 27 New4.yN)) (W New4.tab (by simp only [site, List.mem_cons, List.mem_append, true_or, or_true])) (W := 0) (Nat.le_of_ble_eq_true rfl) (Nat.le_of_ble_eq_true rfl) (Nat.le_refl _) (by show 0 + A.slots.size ≤ A.slots.size; omega) (g := (mkF m 6 #[.val (.ref a), .val (.ref b)] [.null, .int (Int32.ofNat A.slots.size), .int (Int32.ofNat 0), .ref b, .ref a])) rfl (by rw [hml]; rfl) c2 (argsL := [.ref b, .int (Int32.ofNat 0), .int (Int32.ofNat A.slots.size), .null]) (rest := []) rfl rfl (by show 2 * 0 + 0 ≤ _; decide) (hb hbytes d6) (⟨rfl, hB.mv X0.warmed.alike hh0, f1.al X0.warmed.alike, f2.al X0.warmed.alike, hA.mv X0.warmed.alike hh0, s1.there X0.warmed.alike hh0, hz, l0, by omega, l2, fun i hi => by rw [Nat.zero_add]; exact hp i hi⟩)
  have e0 := Got.mv _ s₁ s _ _ hh0.symm (Vm.Alike.refl _) rfl E3
  obtain rfl := e0.1
  have c4 : Steps p.tables e below (s₁.setTop (entryFrame m #[.ref a, .ref b] 2)) (T3.setTop (mkF m 9 #[.val (.ref a), .val (.ref b)] [])) := g3
  exact ⟨T3, none, _, _, _, X3, by simp, rfl, by omega, (fun _ => rfl), e0, fun fs hl => c4.trans (X3.returnOut hexec hret (hb hbytes d9) hl)⟩
theorem pays {l : Launch} {R : Room} {p : Program} {e : Env} {below : List Frame} {s : State} {sargs : Array Value} {len W : Nat} (a : Addr) (D : Cell) (fV fC : Field) (b : Addr) (A : Cell) (z : Int32) (htab : tab.before sargs s = true) (hfr : 4 ≤ R.frames) (hlo : W + 65 ≤ R.locals) :
    Back l R p e below s sargs yN len W (fun A₁ a₁ => A₁.cells + 1 ≤ R.cells ∧ A₁.slots + A.slots.size ≤ R.slots ∧ P a D fV fC b A z a₁ A₁.U) (fun A₁ _ v₁ B₁ => E a D fV fC A v₁ A₁.U B₁.U ∧ B₁.locs = A₁.locs ++ [⟨a, fC.slot⟩, ⟨a, fV.slot⟩] ∧ B₁.cells = A₁.cells + 1 ∧ B₁.slots = A₁.slots + A.slots.size) :=
  (law l a D fV fC b A z).pays htab hfr (by omega)
end New1
/-- the byte, read back as charAt reads it, is the char -/
theorem lo8_mask {x : Int32} (h0 : ¬ x < 0) (h1 : ¬ 255 < x) : lo8 x &&& 255 = x := by
  have t : ∀ k : Fin 256, lo8 (Int32.ofNat k.val) &&& 255 = Int32.ofNat k.val := by decide +kernel
  rw [Int32.lt_iff_toInt_lt] at h0 h1
  have e0 : (0 : Int32).toInt = 0 := rfl
  have e1 : (255 : Int32).toInt = 255 := rfl
  obtain ⟨k, hk⟩ : ∃ k : Nat, x.toInt = k := ⟨x.toInt.toNat, by omega⟩
  have hx : x = Int32.ofNat k := Int32.toInt_inj.mp (by rw [hk, Int32.toInt_ofNat_small (by omega)])
  rw [hx]
  exact t ⟨k, by omega⟩
end StrChars
namespace StrChars.Road
open Jvm Sem ClassFile Op Lib Jvm.Stand Jvm.Free Jvm.Free.XT
open Jvm.Lib.Cold (StaticIs)
abbrev ST : String := "java/lang/String"
/-- every table word that New1's law asks, flat -/
abbrev words : List Jvm.Cond := [.code New1.yN New1.yB 2 none, .initialized ST, .methodLink ST 27 New4.yN, .instanceMethod New4.yN,
  .code New4.yN New4.yB 6 none, .fieldLink ST 38 ST "COMPACT_STRINGS" "Z", .laysFinal ST ST "value" "[B", .fieldLink ST 9 ST "value" "[B", .laysFinal ST ST "coder" "B", .fieldLink ST 15 ST "coder" "B",
  .methodLink ST 1 Lib.objectInit, .instanceMethod Lib.objectInit, .code Lib.objectInit ⟨#[0xb1]⟩ 1 none, .methodLink ST 177 Cmp3.yN, .static Cmp3.yN, .methodLink ST 47 CodL.yN, .static CodL.yN,
  .code Cmp3.yN Cmp3.yB 6 (some (.array .byte)), .initialized U16, .arrayClass .byte, .methodLink U16 115 Cmp5.yN, .static Cmp5.yN, .code Cmp5.yN Cmp5.yB 7 (some .int), .code CodL.yN CodL.yB 2 (some .byte)]
theorem tab_of {a : Array Value} {s : State} (h : ∀ w ∈ words, w.before a s = true) : New1.tab.before a s = true := by
  have h5 : Cmp5.tab.before a s = true := unparts (wk h (.code Cmp5.yN Cmp5.yB 7 (some .int))) (wks h (.initialized Cmp5.yN.cls :: Cmp5.site))
  have hc : CodL.tab.before a s = true := unparts (wk h (.code CodL.yN CodL.yB 2 (some .byte))) (wks h (.initialized CodL.yN.cls :: CodL.site))
  have q5 : ∀ w ∈ Cmp5.tab :: words, w.before a s = true := fun w hw => (List.mem_cons.mp hw).elim (fun e => e ▸ h5) (h w)
  have h3 : Cmp3.tab.before a s = true := unparts (wk q5 (.code Cmp3.yN Cmp3.yB 6 (some (.array .byte)))) (wks q5 (.initialized Cmp3.yN.cls :: Cmp3.site))
  have q3 : ∀ w ∈ Cmp3.tab :: CodL.tab :: words, w.before a s = true := fun w hw => (List.mem_cons.mp hw).elim (fun e => e ▸ h3) fun hw => (List.mem_cons.mp hw).elim (fun e => e ▸ hc) (h w)
  have h4 : New4.tab.before a s = true := unparts (wk q3 (.code New4.yN New4.yB 6 none)) (wks q3 (.initialized New4.yN.cls :: New4.site))
  have q4 : ∀ w ∈ New4.tab :: words, w.before a s = true := fun w hw => (List.mem_cons.mp hw).elim (fun e => e ▸ h4) (h w)
  exact unparts (wk q4 (.code New1.yN New1.yB 2 none)) (wks q4 (.initialized New1.yN.cls :: New1.site))
/-- the words ride from the start Z to the walk's own state -/
theorem moved {Z s : State} {a0 args : Array Value} (hZ : Z.Warmed39 s.vm) (hw : ∀ d ∈ words, d.before a0 Z = true) : ∀ d ∈ words, d.before args s = true := fun d hd => by
  have q := hw d hd
  have t : ∀ d ∈ words, d = .arrayClass .byte ∨ (d.onTables && d.keepsFace) = true := by decide +kernel
  rcases t d hd with rfl | t
  · exact RoadKit.mvA hZ q
  · exact RoadKit.mv hZ q t
/-- WHAT COMES BACK, over the tables of the start Z: h the heap at the call, h' behind it -/
def Q (Z : State) (x : Addr) (A : Cell) (h : Heap) (v : Option Value) (h' : Heap) (L : List Loc) : Prop := v = none ∧ (∀ y ∈ L, y.base = x) ∧ RoadKit.Keep h h' [x] ∧ h'.size = h.size + 1 ∧ RoadKit.Exa Z h' x ST ∧ RoadKit.Fld Z h' x ST "value" "[B" (.ref h.size) ∧ RoadKit.Fld Z h' x ST "coder" "B" (.int 0) ∧
  (∃ V : Cell, RoadKit.Arr Z h' h.size V .byte ∧ V.vm = .none ∧ Z.vm.findClass "[B" = some V.cls ∧ V.slots.size = A.slots.size ∧ ∀ j, j < A.slots.size → V.slots[j]? = some (.int (lo8 (cv A j)))) ∧
  ∀ (O n d : String) (w : Value), RoadKit.Fld Z h x O n d w → RoadKit.slotOf Z O n d ≠ RoadKit.slotOf Z ST "value" "[B" → RoadKit.slotOf Z O n d ≠ RoadKit.slotOf Z ST "coder" "B" → RoadKit.Fld Z h' x O n d w
/-- **new String(chars) AT A CALL, IN THE ROAD'S FORM**: for specialBack behind newO: x the fresh String, b the char[] with the cell A -/
theorem back {p : Program} {l : Launch} {e : Env} {R : Room} {s : State} {args : Array Value} {below : List Frame} {len W : Nat} {Z : State} {a0 : Array Value} {h : Heap} (hZ : Z.Warmed39 s.vm) (hw : ∀ d ∈ words, d.before a0 Z = true) {kI : Nat} (wi : (Jvm.Cond.instantiable ST kI).before a0 Z = true)
    {x b : Addr} {A : Cell} {z : Int32} {v0 c0 : Value} (E : RoadKit.Exa Z h x ST) (V : RoadKit.Fld Z h x ST "value" "[B" v0) (C : RoadKit.Fld Z h x ST "coder" "B" c0) (K : RoadKit.Arr Z h b A .char) (hty : Typed .char A) (S : RoadKit.Sta Z h ST "COMPACT_STRINGS" "Z" (.int z)) (hz : ¬ z = 0)
    (l0 : 0 < A.slots.size) (l2 : A.slots.size ≤ 536870912) (hp : ∀ i, i < A.slots.size → ¬ 255 < cv A i) (hfr : 4 ≤ R.frames) (hlo : W + 65 ≤ R.locals) :
    Back l R p e below s args New1.yN len W (fun P a => a = #[.ref x, .ref b] ∧ P.U.heap = h ∧ P.cells + 1 ≤ R.cells ∧ P.slots + A.slots.size ≤ R.slots)
      (fun P _ v B => ∃ L, Q Z x A h v B.U.heap L ∧ B.locs = P.locs ++ L ∧ B.cells = P.cells + 1 ∧ B.slots = P.slots + A.slots.size) := by
  intro m meth c P g ig mk a X hg hsize hdg hW hn hp'
  obtain ⟨rfl, rfl, r1, r2⟩ := hp'
  have al : Z.vm.Alike P.U.vm := hZ.alike.trans X.warmed.alike
  obtain ⟨D, cfV, kV, iV, fV, hD, gV, stV, knV, obV, asV, slV⟩ := id V
  obtain ⟨D', cfC, kC, iC, fC, hD', gC, stC, -, -, asC, slC⟩ := id C
  cases hD.symm.trans hD'
  obtain ⟨D2, kD, e1, e2, e3, e4, e5⟩ := id E
  cases hD.symm.trans e1
  obtain ⟨c2, k2, i1, i2, i3, -⟩ := Cond.instantiable_spec wi
  cases e2.symm.trans i1
  cases e3.symm.trans i2
  obtain ⟨kU, u1, u2⟩ := al.2.2 _ _ e3
  have hB : Blank ST x D P.U := ⟨hD, ⟨knV, fun q hq => by rw [hq] at obV; cases obV⟩, by rw [al.findClass]; exact e2, kU, u1, by rw [u2]; exact i3, by rw [u2]; exact e5 i3⟩
  have F1 : Found ST "value" "[B" fV P.U := ⟨SBG.found_only al ⟨cfV, kV, iV, gV⟩, stV⟩
  have F2 : Found ST "coder" "B" fC P.U := ⟨SBG.found_only al ⟨cfC, kC, iC, gC⟩, stC⟩
  have hA : Ch b A P.U := ⟨⟨K.1, State.isArrayOf_alike al K.2.1, K.2.2, by omega⟩, hty⟩
  have hS : StaticIs P.U ST "COMPACT_STRINGS" "Z" (.int z) := by
    obtain ⟨cfS, iS, kS, fS, st, cS, t1, t2, t3, t4, t5, t6, t7⟩ := S
    exact StaticIs.there (s := { Z with heap := P.U.heap }) ⟨cfS, iS, kS, fS, st, cS, t1, t2, t3, t4, t5, (fun q => by rw [q] at t6; cases t6), t7⟩ al rfl
  obtain ⟨v, B, X', ⟨⟨hv, E', V', q1, q2, q3, q4, q5, q6, q7, q8, q9, q10, q11⟩, hl, hc, hs⟩, st⟩ := New1.pays x D fV fC b A z (tab_of (moved hZ hw)) hfr hlo m meth c P g ig mk _ X hg hsize hdg hW hn ⟨r1, r2, rfl, hB, F1, F2, hA, hS, hz, l0, l2, hp⟩
  have al' : Z.vm.Alike B.U.vm := hZ.alike.trans X'.warmed.alike
  have hsz : E'.slots.size = D.slots.size := by
    obtain ⟨-, -, -, kB, w1, w2, w3⟩ := q1
    obtain ⟨kB', y1, y2⟩ := al'.2.2 _ _ e3
    rw [q2.2.1] at w1
    cases w1.symm.trans y1
    rw [w3, e5 i3, y2]
  refine ⟨v, B, X', ⟨_, ⟨hv, ?_, ⟨by omega, fun y cy hy hn' => q10 y cy (by simpa using hn') hy, fun y cy hy => ?_⟩, q11, ⟨E', _, q1.1, by rw [q2.2.1]; exact e2, by rw [q2.2.1]; exact e3, by rw [q2.1]; exact obV, fun _ => by rw [hsz]; exact e5 i3⟩,
    ⟨E', cfV, kV, iV, fV, q1.1, gV, stV, by rw [q2.1]; exact knV, by rw [q2.1]; exact obV, by rw [q2.2.1]; exact asV, q3⟩, ⟨E', cfC, kC, iC, fC, q1.1, gC, stC, by rw [q2.1]; exact knV, by rw [q2.1]; exact obV, by rw [q2.2.1]; exact asC, q4⟩,
    ⟨V', ⟨q5.1, State.isArrayOf_alike al'.symm q5.2.1, q5.2.2.1⟩, q6, by rw [← al'.findClass]; exact q7, q8, fun j hj => by have := q9 j hj; rwa [Nat.zero_add] at this⟩, fun O n d w F n1 n2 => ?_⟩, hl, hc, hs⟩, st⟩
  · intro y hy
    simp only [List.mem_cons, List.not_mem_nil, or_false] at hy
    rcases hy with rfl | rfl <;> rfl
  · by_cases q : y = x
    · subst q
      cases hD.symm.trans hy
      exact ⟨E', q1.1, q2.2.1, q2.1, hsz⟩
    · exact ⟨cy, q10 y cy q hy, rfl, rfl, rfl⟩
  · obtain ⟨D3, cf, k, i, f, g1, g2, g3, g4, g5, g6, g7⟩ := F
    cases hD.symm.trans g1
    simp only [RoadKit.slotOf, g2, gV, gC, Option.map_some, Option.getD_some] at n1 n2
    exact ⟨E', cf, k, i, f, q1.1, g2, g3, by rw [q2.1]; exact g4, by rw [q2.1]; exact g5, by rw [q2.2.1]; exact g6, by rw [q2.2.2 f.slot (by simp [n1, n2])]; exact g7⟩
end StrChars.Road
namespace StrChars.Road
open Jvm Sem ClassFile Op Lib Jvm.Stand Jvm.Free Jvm.Free.XT
/-- WHAT COMES BACK, the byte[] as a list of values -/
def QA (Z : State) (x : Addr) (zn : Int32) (cs : List Int32) (h : Heap) (v : Option Value) (h' : Heap) (L : List Loc) : Prop := v = none ∧ (∀ y ∈ L, y.base = x) ∧ RoadKit.Keep h h' [x] ∧ h'.size = h.size + 1 ∧ RoadKit.Exa Z h' x ST ∧ RoadKit.Fld Z h' x ST "value" "[B" (.ref h.size) ∧ RoadKit.Fld Z h' x ST "coder" "B" (.int 0) ∧
  (∃ kb, Z.vm.findClass "[B" = some kb ∧ RoadKit.Arv Z h' h.size kb .byte zn (cs.map fun c => .int (lo8 c)) (.int 0)) ∧
  ∀ (O n d : String) (w : Value), RoadKit.Fld Z h x O n d w → RoadKit.slotOf Z O n d ≠ RoadKit.slotOf Z ST "value" "[B" → RoadKit.slotOf Z O n d ≠ RoadKit.slotOf Z ST "coder" "B" → RoadKit.Fld Z h' x O n d w
/-- **new String(chars) AT A CALL, THE ARRAYS AS LISTS**: the char[] at b holds cs, not empty, no char above 255 -/
theorem backArv {p : Program} {l : Launch} {e : Env} {R : Room} {s : State} {args : Array Value} {below : List Frame} {len W : Nat} {Z : State} {a0 : Array Value} {h : Heap} (hZ : Z.Warmed39 s.vm) (hw : ∀ d ∈ words, d.before a0 Z = true) {kI : Nat} (wi : (Jvm.Cond.instantiable ST kI).before a0 Z = true)
    {x b : Addr} {k : ClassId} {zn z : Int32} {cs : List Int32} {dv v0 c0 : Value} (E : RoadKit.Exa Z h x ST) (V : RoadKit.Fld Z h x ST "value" "[B" v0) (C : RoadKit.Fld Z h x ST "coder" "B" c0) (K : RoadKit.Arv Z h b k .char zn (cs.map Value.int) dv) (S : RoadKit.Sta Z h ST "COMPACT_STRINGS" "Z" (.int z)) (hz : ¬ z = 0)
    (hlen : zn.toNatClampNeg = cs.length) (h0 : 0 < cs.length) (hbig : cs.length ≤ 536870912) (hall : ∀ c ∈ cs, ¬ 255 < c) (hfr : 4 ≤ R.frames) (hlo : W + 65 ≤ R.locals) :
    Back l R p e below s args New1.yN len W (fun P a => a = #[.ref x, .ref b] ∧ P.U.heap = h ∧ P.cells + 1 ≤ R.cells ∧ P.slots + cs.length ≤ R.slots)
      (fun P _ v B => ∃ L, QA Z x zn cs h v B.U.heap L ∧ B.locs = P.locs ++ L ∧ B.cells = P.cells + 1 ∧ B.slots = P.slots + cs.length) := by
  obtain ⟨A, K1, K2, K3, K4, K5, K6⟩ := K
  have e : A.slots.size = cs.length := K3.trans hlen
  have hat : ∀ (i : Nat) (hi : i < cs.length), A.slots[i]? = some (.int cs[i]) := fun i hi => by rw [K5 i (by omega)]; simp [List.getD_eq_getElem?_getD, hi]
  have hcv : ∀ (i : Nat) (hi : i < cs.length), cv A i = cs[i] := fun i hi => by unfold cv; rw [hat i hi]
  have hty : Typed .char A := fun i v hv => by
    have hi : i < A.slots.size := (Array.getElem?_eq_some_iff.mp hv).1
    have q := K5 i hi
    rw [hv] at q
    rw [Option.some.inj q]
    exact K6 i hi
  refine Back.mono (back hZ hw wi E V C K1 hty S hz (by omega) (by omega) (fun i hi => by rw [hcv i (by omega)]; exact hall _ (List.getElem_mem _)) hfr hlo) (fun P a hp => ⟨hp.1, hp.2.1, hp.2.2.1, by rw [e]; exact hp.2.2.2⟩) (fun P a v B hp hq => ?_)
  obtain ⟨L, ⟨q1, q2, q3, q4, q5, q6, q7, ⟨V', v1, v2, v3, v4, v5⟩, q9⟩, hl, hc, hs⟩ := hq
  refine ⟨L, ⟨q1, q2, q3, q4, q5, q6, q7, ⟨V'.cls, v3, V', v1, rfl, by rw [v4, e, hlen], K4, fun i hi => ?_, fun i hi => ?_⟩, q9⟩, hl, hc, by rw [hs, e]⟩
  · have hi' : i < cs.length := by omega
    rw [v5 i (by omega), hcv i hi']; simp [List.getD_eq_getElem?_getD, hi']
  · have hi' : i < cs.length := by omega
    simp only [List.getD_eq_getElem?_getD, List.getElem?_map, List.getElem?_eq_getElem hi', Option.map_some, Option.getD_some]
    exact fits_lo8 _
end StrChars.Road
namespace StrChars.Road
open Jvm Sem ClassFile Op Lib Jvm.Stand Jvm.Free Jvm.Free.XT
/-- WHAT COMES BACK, in the writer's own shape -/
def QV (Z : State) (x : Addr) (N : Int32) (bs : List Int32) (h : Heap) (n0 : Nat) (v : Option Value) (h' : Heap) (L : List Loc) : Prop := v = none ∧ RoadKit.Fr n0 L ∧ RoadKit.Keep h h' [x] ∧ RoadKit.Exa Z h' x ST ∧ RoadKit.Fld Z h' x ST "coder" "B" (.int 0) ∧
  ∃ (t : Addr) (kb : ClassId), n0 ≤ t ∧ h.size ≤ t ∧ ¬ t = x ∧ RoadKit.Fld Z h' x ST "value" "[B" (.ref t) ∧ RoadKit.Arv Z h' t kb .byte N (bs.map Value.int) (.int 0)
/-- **new String(chars) AT A CALL, FOR THE WRITER**: a char[] of n known ints, each 0 to 255 -/
theorem backV {p : Program} {l : Launch} {e : Env} {R : Room} {s : State} {args : Array Value} {below : List Frame} {len W : Nat} {Z : State} {a0 : Array Value} {h : Heap} (hZ : Z.Warmed39 s.vm) (hw : ∀ d ∈ words, d.before a0 Z = true) {kI : Nat} (wi : (Jvm.Cond.instantiable ST kI).before a0 Z = true)
    {x b : Addr} {kC : ClassId} {cs bs : List Int32} {d v0 c0 : Value} {z N : Int32} {n n0 : Nat} (hx0 : n0 ≤ x) (hh0 : n0 ≤ h.size) (E : RoadKit.Exa Z h x ST) (V : RoadKit.Fld Z h x ST "value" "[B" v0) (C : RoadKit.Fld Z h x ST "coder" "B" c0) (K : RoadKit.Arv Z h b kC .char N (cs.map Value.int) d) (S : RoadKit.Sta Z h ST "COMPACT_STRINGS" "Z" (.int z)) (hz : ¬ z = 0)
    (hn : cs.length = n) (hN : N = Int32.ofNat n) (l0 : 0 < n) (l2 : n ≤ 4000) (hp : ∀ c ∈ cs, ¬ c < 0 ∧ ¬ (255 : Int32) < c) (hb : bs = cs.map (fun c => c.toInt8.toInt32)) (hfr : 4 ≤ R.frames) (hlo : W + 65 ≤ R.locals) :
    Back l R p e below s args (⟨"java/lang/String", "<init>", "([C)V"⟩ : MethodName) len W (fun P a => a = #[.ref x, .ref b] ∧ P.U.heap = h ∧ P.cells + 1 ≤ R.cells ∧ P.slots + n ≤ R.slots)
      (fun P _ v B => ∃ L, QV Z x N bs h n0 v B.U.heap L ∧ B.locs = P.locs ++ L ∧ B.cells = P.cells + 1 ∧ B.slots = P.slots + n) := by
  subst hn hN hb
  refine Back.mono (backArv hZ hw wi E V C K S hz (n32 (by omega)) l0 (by omega) (fun c hc => (hp c hc).2) hfr hlo) (fun P a hp => hp) (fun P a v B hp hq => ?_)
  obtain ⟨L, ⟨q1, q2, q3, q4, q5, q6, q7, ⟨kb, v1, v2⟩, q9⟩, hl, hc, hs⟩ := hq
  exact ⟨L, ⟨q1, fun y hy => by rw [q2 y hy]; exact hx0, q3, q5, q7, h.size, kb, hh0, Nat.le_refl _, Nat.ne_of_gt E.lt, q6, by rw [List.map_map]; exact v2⟩, hl, hc, hs⟩
end StrChars.Road
namespace StrChars
open Jvm Sem ClassFile Op Lib Jvm.Stand Jvm.Free.XT Jvm.Free.ALB Jvm.Free.JM Jvm.Free
open Jvm.Lib.Cold (StaticIs)
def hi8 (x : Int32) : Int32 := lo8 (x >>> ((8 : Int32) &&& 31))
/-- what StringUTF16.getChar makes of two bytes -/
def pairCh (u v : Int32) : Int32 := (((u &&& 255) <<< ((0 : Int32) &&& 31)) ||| ((v &&& 255) <<< ((8 : Int32) &&& 31))).toUInt32.toUInt16.toUInt32.toInt32
theorem lo8_and (x : Int32) : (lo8 x &&& 255).toBitVec.toNat = x.toBitVec.toNat % 256 := by
  have h : (lo8 x).toBitVec = (x.toBitVec.signExtend 8).signExtend 32 := by rw [lo8, Int8.toBitVec_toInt32, Int32.toBitVec_toInt8]
  rw [Int32.toBitVec_and, BitVec.toNat_and, h]
  have e : ((x.toBitVec.signExtend 8).signExtend 32).toNat % 256 = x.toBitVec.toNat % 256 := by
    rw [BitVec.toNat_signExtend]
    have hlt := x.toBitVec.isLt
    simp only [BitVec.toNat_setWidth, BitVec.toNat_signExtend]
    split <;> split <;> omega
  rw [← e]
  exact Nat.and_two_pow_sub_one_eq_mod _ 8
theorem pair_says {c : Int32} (h0 : ¬ c < 0) (h1 : ¬ 65535 < c) : pairCh (lo8 c) (hi8 c) = c := by
  rw [Int32.lt_iff_toInt_lt] at h0 h1
  have e0 : (0 : Int32).toInt = 0 := rfl
  have e1 : (65535 : Int32).toInt = 65535 := rfl
  have hc : c.toInt = c.toBitVec.toNat := by
    have := c.toBitVec.isLt
    have e : c.toInt = c.toBitVec.toInt := rfl
    rw [e] at h0 h1
    rw [e]
    rw [BitVec.toInt_eq_toNat_cond] at h0 h1 ⊢
    split at h0 <;> split <;> omega
  have hn : c.toBitVec.toNat < 65536 := by omega
  have a1 := lo8_and c
  have a2 : (hi8 c &&& 255).toBitVec.toNat = c.toBitVec.toNat / 256 := by
    rw [hi8, lo8_and]
    have e : ((8 : Int32) &&& 31) = 8 := by decide
    rw [e, Int32.toBitVec_shiftRight]
    have e2 : ((8 : Int32).toBitVec.smod 32) = 8#32 := by decide
    rw [e2, BitVec.sshiftRight_eq', BitVec.toNat_sshiftRight_of_msb_false (by rw [BitVec.msb_eq_false_iff_two_mul_lt]; omega)]
    show c.toBitVec.toNat >>> 8 % 256 = _
    rw [Nat.shiftRight_eq_div_pow]
    omega
  unfold pairCh
  apply Int32.toBitVec_inj.mp
  apply BitVec.eq_of_toNat_eq
  have f0 : ((0 : Int32) &&& 31) = 0 := by decide
  have f8 : ((8 : Int32) &&& 31) = 8 := by decide
  rw [f0, f8]
  have g : (((lo8 c &&& 255) <<< (0 : Int32)) ||| ((hi8 c &&& 255) <<< (8 : Int32))).toBitVec.toNat = c.toBitVec.toNat := by
    rw [Int32.toBitVec_or, Int32.toBitVec_shiftLeft, Int32.toBitVec_shiftLeft]
    have s0 : ((0 : Int32).toBitVec.smod 32) = 0#32 := by decide
    have s8 : ((8 : Int32).toBitVec.smod 32) = 8#32 := by decide
    rw [s0, s8, BitVec.toNat_or]
    simp only [BitVec.shiftLeft_eq', BitVec.toNat_shiftLeft, a1, a2]
    show (c.toBitVec.toNat % 256) <<< 0 % 2 ^ 32 ||| (c.toBitVec.toNat / 256) <<< 8 % 2 ^ 32 = _
    rw [Nat.shiftLeft_zero, Nat.mod_eq_of_lt (show c.toBitVec.toNat % 256 < 2 ^ 32 by omega), Nat.mod_eq_of_lt (show (c.toBitVec.toNat / 256) <<< 8 < 2 ^ 32 by rw [Nat.shiftLeft_eq]; omega), Nat.or_comm, ← Nat.shiftLeft_add_eq_or_of_lt (by omega), Nat.shiftLeft_eq]
    omega
  show BitVec.toNat (((((lo8 c &&& 255) <<< (0 : Int32)) ||| ((hi8 c &&& 255) <<< (8 : Int32))).toBitVec.setWidth 16).setWidth 32) = _
  rw [BitVec.toNat_setWidth, BitVec.toNat_setWidth, g]
  omega
end StrChars
namespace StrChars
open Jvm Sem ClassFile Op Lib Jvm.Stand Jvm.Free.XT Jvm.Free.ALB Jvm.Free.JM Jvm.Free
open Jvm.Lib.Cold (StaticIs)
/-- charAt's cast of a byte read back -/
def chr8 (u : Int32) : Int32 := (u &&& 255).toUInt32.toUInt16.toUInt32.toInt32
theorem chr8_lo8 {c : Int32} (h0 : ¬ c < 0) (h1 : ¬ 255 < c) : chr8 (lo8 c) = c := by
  have t : ∀ k : Fin 256, (Int32.ofNat k.val).toUInt32.toUInt16.toUInt32.toInt32 = Int32.ofNat k.val := by decide +kernel
  unfold chr8
  rw [lo8_mask h0 h1]
  rw [Int32.lt_iff_toInt_lt] at h0 h1
  have e0 : (0 : Int32).toInt = 0 := rfl
  have e1 : (255 : Int32).toInt = 255 := rfl
  obtain ⟨k, hk⟩ : ∃ k : Nat, c.toInt = k := ⟨c.toInt.toNat, by omega⟩
  have hx : c = Int32.ofNat k := Int32.toInt_inj.mp (by rw [hk, Int32.toInt_ofNat_small (by omega)])
  rw [hx]
  exact t ⟨k, by omega⟩
theorem narrow_ch {c : Int32} (h0 : ¬ c < 0) (h1 : ¬ 65535 < c) : narrow .char (.int c) = .int c := by
  have q : narrow .char (.int (pairCh (lo8 c) (hi8 c))) = .int (pairCh (lo8 c) (hi8 c)) := narrow_c _
  rwa [pair_says h0 h1] at q
/-- the array's cell V codes the n chars f 0 .. f (n - 1) by the coder cd, as the JDK does: coder 1 just where some char is above 255 -/
def Cod (cd : Int32) (n : Nat) (f : Nat → Int32) (V : Cell) : Prop := (cd = 0 ∧ V.slots.size = n ∧ ∀ j, j < n → V.slots[j]? = some (.int (lo8 (f j))) ∧ ¬ 255 < f j) ∨ (cd = 1 ∧ V.slots.size = 2 * n ∧ (∀ j, j < n → V.slots[2 * j]? = some (.int (lo8 (f j))) ∧ V.slots[2 * j + 1]? = some (.int (hi8 (f j)))) ∧ ∃ j, j < n ∧ 255 < f j)
theorem Cod.cd {cd : Int32} {n : Nat} {f : Nat → Int32} {V : Cell} (h : Cod cd n f V) : cd = 0 ∨ cd = 1 := h.imp (fun q => q.1) fun q => q.1
/-- **x is a String of the n chars f 0 .. f (n - 1)**, Latin-1 or UTF-16; its array at t has the cell V -/
def Txt (x t : Addr) (V : Cell) (cd : Int32) (n : Nat) (f : Nat → Int32) (U : State) : Prop := Exact "java/lang/String" x U ∧ Has x "java/lang/String" "value" "[B" (.ref t) U ∧ Has x "java/lang/String" "coder" "B" (.int cd) U ∧ XT.Arr .byte t V U ∧ Cod cd n f V ∧ ∀ j, j < n → ¬ f j < 0 ∧ ¬ 65535 < f j
theorem Txt.mv {x t : Addr} {V : Cell} {cd : Int32} {n : Nat} {f : Nat → Int32} {U U' : State} (h : Txt x t V cd n f U) (hal : U.vm.Alike U'.vm) (hh : U'.heap = U.heap) : Txt x t V cd n f U' := ⟨h.1.mv hal hh, h.2.1.mv hal hh, h.2.2.1.mv hal hh, h.2.2.2.1.mv hal hh, h.2.2.2.2⟩
namespace IsL
def yN : MethodName := ⟨"java/lang/String", "isLatin1", "()Z"⟩
abbrev yB : ByteArray := jdk_42_method_154_code
theorem d0 : decode yB 0 = .ok (.getstatic 38, 3) := by decide +kernel
theorem d3 : decode yB 3 = .ok (.ifCond (.eq) 14, 3) := by decide +kernel
theorem d6 : decode yB 6 = .ok (.aload_n 0, 1) := by decide +kernel
theorem d7 : decode yB 7 = .ok (.getfield 15, 3) := by decide +kernel
theorem d10 : decode yB 10 = .ok (.ifCond (.ne) 7, 3) := by decide +kernel
theorem d13 : decode yB 13 = .ok (.iconst 1, 1) := by decide +kernel
theorem d14 : decode yB 14 = .ok (.goto 4, 3) := by decide +kernel
theorem d17 : decode yB 17 = .ok (.iconst 0, 1) := by decide +kernel
theorem d18 : decode yB 18 = .ok (.ireturn, 1) := by decide +kernel
def site : List Cond := [.fieldLink "java/lang/String" 38 "java/lang/String" "COMPACT_STRINGS" "Z", .fieldLink "java/lang/String" 15 "java/lang/String" "coder" "B"]
def tab : Cond := tabOf yN yB 1 (some .boolean) site
def P (x : Addr) (cd z : Int32) (args : Array Value) (s : State) : Prop := args = #[.ref x] ∧ Has x "java/lang/String" "coder" "B" (.int cd) s ∧ (cd = 0 ∨ cd = 1) ∧ StaticIs s "java/lang/String" "COMPACT_STRINGS" "Z" (.int z) ∧ ¬ z = 0
def E (cd : Int32) (r : Option Value) (s u : State) : Prop := XT.PureE (some (.int (1 - cd))) r s u
theorem law (l : Launch) (x : Addr) (cd z : Int32) : Law l yN 1 0 0 0 yB 1 (some .boolean) site (P x cd z) (E cd) [] 0 0 := by
  refine Law.of_walk (plainFor_of_name (by decide +kernel)) (by decide +kernel) (by decide +kernel) (by decide) (fun _ _ h => by rw [h.1]; rfl) (fun _ U U' hal hh h => ⟨h.1, h.2.1.mv hal hh, h.2.2.1, h.2.2.2.1.there hal hh, h.2.2.2.2⟩) (fun r U U' V V' h1 hal h2 h => XT.PureE.mv r U U' V V' h1 hal h2 h) ?_
  intro p e s m args below meth c s₁ X0 hexec hbytes hml hret hlk hnm hown hh0 W hP
  obtain ⟨rfl, hx, hc, s1, hz⟩ := hP
  have c1 : Steps p.tables e below (s₁.setTop (entryFrame m #[.ref x] 1)) (s₁.setTop (mkF m 0 #[.val (.ref x)] [])) := entry rfl
  obtain ⟨T2, X2, q2, st2⟩ := X0.sget hexec hown (wk W (.fieldLink "java/lang/String" 38 "java/lang/String" "COMPACT_STRINGS" "Z")) s1 (fun _ _ h => by rw [hh0]; exact h) (g := (mkF m 0 #[.val (.ref x)] [])) rfl (hb hbytes d0)
  have hh2 := q2.trans hh0
  have c3 : Steps p.tables e below (s₁.setTop (entryFrame m #[.ref x] 1)) (T2.setTop (mkF m 7 #[.val (.ref x)] [.ref x])) := (c1.trans (st2 _ (Steps.refl _))).trans (by
    refine XS.ifNo X2.here hexec rfl (hb hbytes d3) rfl (i0_eq_f hz) ?_
    refine XS.aloadN X2.here hexec rfl (hb hbytes d6) rfl rfl ?_
    exact Steps.refl _)
  obtain ⟨T4, X4, q4, st4⟩ := X2.hget hexec hown (wk W (.fieldLink "java/lang/String" 15 "java/lang/String" "coder" "B")) (hx.mv X2.warmed.alike hh2) (g := (mkF m 7 #[.val (.ref x)] [.ref x])) rfl (rest := []) rfl (hb hbytes d7)
  have c5 : Steps p.tables e below (s₁.setTop (entryFrame m #[.ref x] 1)) (T4.setTop (mkF m 10 #[.val (.ref x)] [.int cd])) := c3.trans (st4 _ (Steps.refl _))
  have c6 : Steps p.tables e below (s₁.setTop (entryFrame m #[.ref x] 1)) (T4.setTop (mkF m 18 #[.val (.ref x)] [.int (1 - cd)])) := by
    rcases hc with rfl | rfl
    · exact c5.trans (by
        refine XS.ifNo X4.here hexec rfl (hb hbytes d10) rfl (i0_ne_f rfl) ?_
        refine iconstV X4.here hexec rfl 1 (hb hbytes d13) (by decide) ?_
        refine XS.goto X4.here hexec rfl (pc0 := 14) rfl (hb hbytes d14) (by decide) rfl ?_
        exact Steps.refl _)
    · exact c5.trans (by
        refine XS.ifYes X4.here hexec rfl (pc0 := 10) rfl (hb hbytes d10) rfl (i0_ne_t (by decide)) (by decide) rfl ?_
        refine iconstV X4.here hexec rfl 0 (hb hbytes d17) (by decide) ?_
        exact Steps.refl _)
  exact ⟨T4, some (.int (1 - cd)), _, _, _, X4, rfl, rfl, rfl, (fun h => by cases h), ⟨rfl, q4.trans hh2⟩, fun fs hl => c6.trans (X4.ireturnOut hexec hret (by rcases hc with rfl | rfl <;> rfl) (Or.inr (Or.inl rfl)) (hb hbytes d18) hl)⟩
end IsL
namespace LChA
def yN : MethodName := ⟨"java/lang/StringLatin1", "charAt", "([BI)C"⟩
abbrev yB : ByteArray := jdk_43_method_2_code
theorem d0 : decode yB 0 = .ok (.iload_n 1, 1) := by decide +kernel
theorem d1 : decode yB 1 = .ok (.aload_n 0, 1) := by decide +kernel
theorem d2 : decode yB 2 = .ok (.arraylength, 1) := by decide +kernel
theorem d3 : decode yB 3 = .ok (.invokestatic 9, 3) := by decide +kernel
theorem d6 : decode yB 6 = .ok (.aload_n 0, 1) := by decide +kernel
theorem d7 : decode yB 7 = .ok (.iload_n 1, 1) := by decide +kernel
theorem d8 : decode yB 8 = .ok (.baload, 1) := by decide +kernel
theorem d9 : decode yB 9 = .ok (.sipush 255, 3) := by decide +kernel
theorem d12 : decode yB 12 = .ok (.iand, 1) := by decide +kernel
theorem d13 : decode yB 13 = .ok (.i2c, 1) := by decide +kernel
theorem d14 : decode yB 14 = .ok (.ireturn, 1) := by decide +kernel
def site : List Cond := [JO.Str_checkIndex.tab] ++ staticW "java/lang/StringLatin1" 9 JO.Str_checkIndex.yN
def tab : Cond := tabOf yN yB 2 (some .char) site
def P (t : Addr) (V : Cell) (i : Nat) (u : Int32) (fm : Value) (args : Array Value) (s : State) : Prop := args = #[.ref t, .int (Int32.ofNat i)] ∧ XT.Arr .byte t V s ∧ V.slots[i]? = some (.int u) ∧ (StaticIs s "jdk/internal/util/Preconditions" "SIOOBE_FORMATTER" "Ljava/util/function/BiFunction;" fm ∧ fm.isRef = true)
def E (u : Int32) (r : Option Value) (s w : State) : Prop := XT.PureE (some (.int (chr8 u))) r s w
theorem law (l : Launch) (t : Addr) (V : Cell) (i : Nat) (u : Int32) (fm : Value) : Law l yN 2 2 2 27 yB 2 (some .char) site (P t V i u fm) (E u) [] 0 0 := by
  refine Law.of_walk (plainFor_of_name (by decide +kernel)) (by decide +kernel) (by decide +kernel) (by decide) (fun _ _ h => by rw [h.1]; rfl) (fun _ U U' hal hh h => ⟨h.1, h.2.1.mv hal hh, h.2.2.1, h.2.2.2.1.there hal hh, h.2.2.2.2⟩) (fun r U U' V V' h1 hal h2 h => XT.PureE.mv r U U' V V' h1 hal h2 h) ?_
  intro p e s m args below meth c s₁ X0 hexec hbytes hml hret hlk hnm hown hh0 W hP
  obtain ⟨rfl, hV, hu, s1, rf⟩ := hP
  have v31 := hV.2.2.2
  have hi : i < V.slots.size := (Array.getElem?_eq_some_iff.mp hu).1
  have c1 : Steps p.tables e below (s₁.setTop (entryFrame m #[.ref t, .int (Int32.ofNat i)] 2)) (s₁.setTop (mkF m 0 #[.val (.ref t), .val (.int (Int32.ofNat i))] [])) := entry rfl
  have c2 : Steps p.tables e below (s₁.setTop (entryFrame m #[.ref t, .int (Int32.ofNat i)] 2)) (s₁.setTop (mkF m 3 #[.val (.ref t), .val (.int (Int32.ofNat i))] [.int (Int32.ofNat V.slots.size), .int (Int32.ofNat i)])) := c1.trans (by
    refine XS.iloadN X0.here hexec rfl (hb hbytes d0) rfl ?_
    refine XS.aloadN X0.here hexec rfl (hb hbytes d1) rfl rfl ?_
    refine X0.alen hexec (hV.mv X0.warmed.alike hh0) rfl rfl (hb hbytes d2) ?_
    exact Steps.refl _)
  obtain ⟨v3, T3, X3, E3, g3⟩ := X0.callS hexec (JO.Str_checkIndex.law l (Int32.ofNat i) (Int32.ofNat V.slots.size) fm) hown (wks W (staticW "java/lang/StringLatin1" 9 JO.Str_checkIndex.yN)) (wk W JO.Str_checkIndex.tab) (W := 0) (Nat.le_of_ble_eq_true rfl) (Nat.le_of_ble_eq_true rfl) (Nat.le_refl _) (Nat.le_refl _) (g := (mkF m 3 #[.val (.ref t), .val (.int (Int32.ofNat i))] [.int (Int32.ofNat V.slots.size), .int (Int32.ofNat i)])) rfl (by rw [hml]; rfl) c2 (argsL := [.int (Int32.ofNat i), .int (Int32.ofNat V.slots.size)]) (rest := []) rfl rfl (by show 2 * 0 + 0 ≤ _; decide) (hb hbytes d3) (⟨rfl, rf, s1.there X0.warmed.alike hh0, Int32.ofNat_not_neg (by omega), lt32 v31 hi⟩)
  obtain ⟨rfl, q3⟩ := E3
  have hh3 := q3.trans hh0
  have c4 : Steps p.tables e below (s₁.setTop (entryFrame m #[.ref t, .int (Int32.ofNat i)] 2)) (T3.setTop (mkF m 14 #[.val (.ref t), .val (.int (Int32.ofNat i))] [.int (chr8 u)])) := Steps.trans g3 (by
    refine XS.aloadN X3.here hexec rfl (hb hbytes d6) rfl rfl ?_
    refine XS.iloadN X3.here hexec rfl (hb hbytes d7) rfl ?_
    refine X3.aget hexec (hV.mv X3.warmed.alike hh3) rfl hu rfl rfl (hb hbytes d8) ?_
    refine sipushV X3.here hexec rfl 255 (hb hbytes d9) (by decide) ?_
    refine XS.iand X3.here hexec rfl (hb hbytes d12) rfl ?_
    refine i2c X3.here hexec rfl (hb hbytes d13) rfl ?_
    exact Steps.refl _)
  exact ⟨T3, some (.int (chr8 u)), _, _, _, X3, rfl, rfl, rfl, (fun h => by cases h), ⟨rfl, hh3⟩, fun fs hl => c4.trans (X3.ireturnOut hexec hret (narrow_c _) (Or.inr (Or.inr (Or.inr (Or.inl rfl)))) (hb hbytes d14) hl)⟩
end LChA
end StrChars
namespace StrChars.Road
open Jvm Sem ClassFile Op Lib Jvm.Stand Jvm.Free Jvm.Free.XT
open Jvm.Lib.Cold (StaticIs)
theorem consq {a : Array Value} {s : State} {c : Jvm.Cond} {L : List Jvm.Cond} (h0 : c.before a s = true) (h : ∀ w ∈ L, w.before a s = true) : ∀ w ∈ c :: L, w.before a s = true := fun w hw => (List.mem_cons.mp hw).elim (fun e => e ▸ h0) (h w)
/-- the bytes of the chars cs, low before high -/
def wideBytes : List Int32 → List Value
  | [] => []
  | c :: cs => .int (lo8 c) :: .int (hi8 c) :: wideBytes cs
theorem wide_lo (d : Value) : ∀ (cs : List Int32) (j : Nat), j < cs.length → (wideBytes cs).getD (2 * j) d = .int (lo8 (cs.getD j 0))
  | [], j, h => absurd h (Nat.not_lt_zero j)
  | c :: cs, 0, _ => rfl
  | c :: cs, j + 1, h => by
    have q := wide_lo d cs j (by simpa using h)
    rw [show 2 * (j + 1) = 2 * j + 1 + 1 from by omega]
    simpa [wideBytes] using q
theorem wide_hi (d : Value) : ∀ (cs : List Int32) (j : Nat), j < cs.length → (wideBytes cs).getD (2 * j + 1) d = .int (hi8 (cs.getD j 0))
  | [], j, h => absurd h (Nat.not_lt_zero j)
  | c :: cs, 0, _ => rfl
  | c :: cs, j + 1, h => by
    have q := wide_hi d cs j (by simpa using h)
    rw [show 2 * (j + 1) + 1 = 2 * j + 1 + 1 + 1 from by omega]
    simpa [wideBytes] using q
theorem low_at (d : Value) (cs : List Int32) (j : Nat) (h : j < cs.length) : (cs.map fun c => Value.int (lo8 c)).getD j d = .int (lo8 (cs.getD j 0)) := by
  simp [List.getD_eq_getElem?_getD, h]
/-- an array of N2 bytes vs codes the chars cs by the coder cd -/
def CodA (cs : List Int32) (cd N2 : Int32) (vs : List Value) : Prop := (cd = 0 ∧ N2 = Int32.ofNat cs.length ∧ vs = (cs.map fun c => Value.int (lo8 c)) ∧ ∀ c ∈ cs, ¬ 255 < c) ∨ (cd = 1 ∧ N2 = Int32.ofNat (2 * cs.length) ∧ vs = wideBytes cs ∧ ∃ c ∈ cs, 255 < c)
theorem CodA.cod {cs : List Int32} {cd N2 : Int32} {vs : List Value} {V : Cell} (h : CodA cs cd N2 vs) (hn : 2 * cs.length < 2 ^ 31) (hs : V.slots.size = N2.toNatClampNeg) (hv : RoadKit.Has V vs (.int 0)) : Cod cd cs.length (fun j => cs.getD j 0) V := by
  rcases h with ⟨rfl, rfl, rfl, h⟩ | ⟨rfl, rfl, rfl, c, hc, hw⟩
  · rw [n32 (by omega)] at hs
    exact Or.inl ⟨rfl, hs, fun j hj => ⟨by rw [hv j (by omega), low_at _ _ _ hj], by
      have e : cs.getD j 0 = cs[j] := by simp [List.getD_eq_getElem?_getD, hj]
      show ¬ 255 < cs.getD j 0
      rw [e]; exact h _ (List.getElem_mem _)⟩⟩
  · rw [n32 (by omega)] at hs
    obtain ⟨j, hj, rfl⟩ := List.getElem_of_mem hc
    exact Or.inr ⟨rfl, hs, fun j hj => ⟨by rw [hv _ (by omega), wide_lo _ _ _ hj], by rw [hv _ (by omega), wide_hi _ _ _ hj]⟩, j, hj, by
      have e : cs.getD j 0 = cs[j] := by simp [List.getD_eq_getElem?_getD, hj]
      show 255 < cs.getD j 0
      rw [e]; exact hw⟩
/-- an object of exactly java/lang/String, its two fields found: as the laws ask it -/
theorem strObj {Z U : State} {a0 : Array Value} {kI : Nat} (wi : (Jvm.Cond.instantiable ST kI).before a0 Z = true) (al : Z.vm.Alike U.vm) {x : Addr} {v0 c0 : Value} (E : RoadKit.Exa Z U.heap x ST) (V : RoadKit.Fld Z U.heap x ST "value" "[B" v0) (C : RoadKit.Fld Z U.heap x ST "coder" "B" c0) :
    ∃ (D : Cell) (fV fC : Field), Blank ST x D U ∧ Found ST "value" "[B" fV U ∧ Found ST "coder" "B" fC U ∧ D.slots[fV.slot]? = some v0 ∧ D.slots[fC.slot]? = some c0 ∧ RoadKit.slotOf Z ST "value" "[B" = fV.slot ∧ RoadKit.slotOf Z ST "coder" "B" = fC.slot := by
  obtain ⟨D, cfV, kV, iV, fV, hD, gV, stV, knV, obV, asV, slV⟩ := V
  obtain ⟨D', cfC, kC, iC, fC, hD', gC, stC, -, -, asC, slC⟩ := C
  cases hD.symm.trans hD'
  obtain ⟨D2, kD, e1, e2, e3, e4, e5⟩ := E
  cases hD.symm.trans e1
  obtain ⟨c2, k2, i1, i2, i3, -⟩ := Cond.instantiable_spec wi
  cases e2.symm.trans i1
  cases e3.symm.trans i2
  obtain ⟨kU, u1, u2⟩ := al.2.2 _ _ e3
  exact ⟨D, fV, fC, ⟨hD, ⟨knV, fun q hq => by rw [hq] at obV; cases obV⟩, by rw [al.findClass]; exact e2, kU, u1, by rw [u2]; exact i3, by rw [u2]; exact e5 i3⟩, ⟨SBG.found_only al ⟨cfV, kV, iV, gV⟩, stV⟩, ⟨SBG.found_only al ⟨cfC, kC, iC, gC⟩, stC⟩, slV, slC, by simp [RoadKit.slotOf, gV], by simp [RoadKit.slotOf, gC]⟩
theorem sta_is {Z U : State} (al : Z.vm.Alike U.vm) {C n d : String} {v : Value} (S : RoadKit.Sta Z U.heap C n d v) : StaticIs U C n d v := by
  obtain ⟨cfS, iS, kS, fS, st, cS, t1, t2, t3, t4, t5, t6, t7⟩ := S
  exact StaticIs.there (s := { Z with heap := U.heap }) ⟨cfS, iS, kS, fS, st, cS, t1, t2, t3, t4, t5, (fun q => by rw [q] at t6; cases t6), t7⟩ al rfl
end StrChars.Road
namespace StrChars.Road
open Jvm Sem ClassFile Op Lib Jvm.Stand Jvm.Free Jvm.Free.XT
open Jvm.Lib.Cold (StaticIs)
/-- the road's facts of a String, as the laws ask it -/
theorem txt_of {Z U : State} {a0 : Array Value} {kI : Nat} (wi : (Jvm.Cond.instantiable ST kI).before a0 Z = true) (al : Z.vm.Alike U.vm) {x t : Addr} {kb : ClassId} {cs : List Int32} {cd N2 : Int32} {vs : List Value} (E : RoadKit.Exa Z U.heap x ST) (V : RoadKit.Fld Z U.heap x ST "value" "[B" (.ref t)) (C : RoadKit.Fld Z U.heap x ST "coder" "B" (.int cd)) (K : RoadKit.Arv Z U.heap t kb .byte N2 vs (.int 0)) (hc : CodA cs cd N2 vs) (hb : ∀ c ∈ cs, ¬ c < 0 ∧ ¬ (65535 : Int32) < c) (l2 : cs.length ≤ 4000) :
    ∃ A, Txt x t A cd cs.length (fun j => cs.getD j 0) U := by
  obtain ⟨A, K1, K2, K3, K4, K5, K6⟩ := K
  have hcod := hc.cod (by omega) K3 K5
  obtain ⟨D, fV, fC, hB, F1, F2, g1, g2, -, -⟩ := strObj wi al E V C
  exact ⟨A, ⟨_, hB.2.2.1, D, hB.1, rfl, by cases q : D.vm <;> first | rfl | exact absurd q (hB.2.1.2 _)⟩, Has.of hB F1 g1, Has.of hB F2 g2, ⟨K1.1, State.isArrayOf_alike al K1.2.1, K1.2.2, by rcases hcod with ⟨-, q, -⟩ | ⟨-, q, -⟩ <;> omega⟩, hcod, fun j hj => by
    have e : cs.getD j 0 = cs[j] := by simp [List.getD_eq_getElem?_getD, hj]
    show ¬ cs.getD j 0 < 0 ∧ ¬ 65535 < cs.getD j 0
    rw [e]; exact hb _ (List.getElem_mem _)⟩
end StrChars.Road
namespace StrChars
open Jvm Sem ClassFile Op Lib Jvm.Stand Jvm.Free.XT Jvm.Free.ALB Jvm.Free.JM Jvm.Free
open Jvm.Lib.Cold (StaticIs)
namespace ChN
def yN : MethodName := ⟨"java/lang/String", "charAt", "(I)C"⟩
abbrev yB : ByteArray := jdk_42_method_56_code
theorem d0 : decode yB 0 = .ok (.aload_n 0, 1) := by decide +kernel
theorem d1 : decode yB 1 = .ok (.invokevirtual 492, 3) := by decide +kernel
theorem d4 : decode yB 4 = .ok (.ifCond (.eq) 12, 3) := by decide +kernel
theorem d7 : decode yB 7 = .ok (.aload_n 0, 1) := by decide +kernel
theorem d8 : decode yB 8 = .ok (.getfield 9, 3) := by decide +kernel
theorem d11 : decode yB 11 = .ok (.iload_n 1, 1) := by decide +kernel
theorem d12 : decode yB 12 = .ok (.invokestatic 495, 3) := by decide +kernel
theorem d15 : decode yB 15 = .ok (.ireturn, 1) := by decide +kernel
def site : List Cond := [.fieldLink "java/lang/String" 9 "java/lang/String" "value" "[B", IsL.tab, LChA.tab] ++ virtW "java/lang/String" 492 "java/lang/String" IsL.yN IsL.yN ++ staticW "java/lang/String" 495 LChA.yN
def tab : Cond := tabOf yN yB 2 (some .char) site
def P (x t : Addr) (V : Cell) (n : Nat) (f : Nat → Int32) (z : Int32) (fm : Value) (i : Nat) (args : Array Value) (s : State) : Prop := args = #[.ref x, .int (Int32.ofNat i)] ∧ Txt x t V 0 n f s ∧ i < n ∧ StaticIs s "java/lang/String" "COMPACT_STRINGS" "Z" (.int z) ∧ ¬ z = 0 ∧ StaticIs s "jdk/internal/util/Preconditions" "SIOOBE_FORMATTER" "Ljava/util/function/BiFunction;" fm ∧ fm.isRef = true
def E (f : Nat → Int32) (i : Nat) (r : Option Value) (s u : State) : Prop := XT.PureE (some (.int (f i))) r s u
/-- charAt(i) of a Latin-1 String of n chars, i < n: f i -/
theorem law (l : Launch) (x t : Addr) (V : Cell) (n : Nat) (f : Nat → Int32) (z : Int32) (fm : Value) (i : Nat) : Law l yN 2 1 3 40 yB 2 (some .char) site (P x t V n f z fm i) (E f i) [] 0 0 := by
  refine Law.of_walk (plainFor_of_name (by decide +kernel)) (by decide +kernel) (by decide +kernel) (by decide) (fun _ _ h => by rw [h.1]; rfl) (fun _ U U' hal hh h => ⟨h.1, h.2.1.mv hal hh, h.2.2.1, h.2.2.2.1.there hal hh, h.2.2.2.2.1, h.2.2.2.2.2.1.there hal hh, h.2.2.2.2.2.2⟩) (fun r U U' V V' h1 hal h2 h => XT.PureE.mv r U U' V V' h1 hal h2 h) ?_
  intro p e s m args below meth c s₁ X0 hexec hbytes hml hret hlk hnm hown hh0 W hP
  obtain ⟨rfl, hx, hi, s1, hz, s3, rf⟩ := hP
  have v31 := hx.2.2.2.1.2.2.2
  have hr := hx.2.2.2.2.2 i hi
  have hx0 := hx.mv X0.warmed.alike hh0
  have c1 : Steps p.tables e below (s₁.setTop (entryFrame m #[.ref x, .int (Int32.ofNat i)] 2)) (s₁.setTop (mkF m 1 #[.val (.ref x), .val (.int (Int32.ofNat i))] [.ref x])) := Steps.trans (entry rfl) (by
    show Steps p.tables e below (s₁.setTop (mkF m 0 #[.val (.ref x), .val (.int (Int32.ofNat i))] [])) _
    refine XS.aloadN X0.here hexec rfl (hb hbytes d0) rfl rfl ?_
    exact Steps.refl _)
  obtain ⟨v2, T2, X2, E2, g2⟩ := X0.callV hexec (IsL.law l x 0 z) hown (wks W (virtW "java/lang/String" 492 "java/lang/String" IsL.yN IsL.yN)) rfl (by decide) (wk W IsL.tab) (W := 0) (Nat.le_of_ble_eq_true rfl) (Nat.le_of_ble_eq_true rfl) (Nat.le_refl _) (Nat.le_refl _) (hx0.1.fc X0.warmed.alike) hx0.1.is (g := (mkF m 1 #[.val (.ref x), .val (.int (Int32.ofNat i))] [.ref x])) rfl (by rw [hml]; rfl) c1 (argsL := []) (rest := []) rfl rfl (by show 2 * 0 + 0 ≤ _; decide) (hb hbytes d1) (⟨rfl, hx0.2.2.1, hx.2.2.2.2.1.cd, s1.there X0.warmed.alike hh0, hz⟩)
  obtain ⟨rfl, q2⟩ := E2
  have hh2 := q2.trans hh0
  have hx2 := hx.mv X2.warmed.alike hh2
  obtain ⟨-, k1, k2⟩ | ⟨k0, -⟩ := hx.2.2.2.2.1
  · have c3 : Steps p.tables e below (s₁.setTop (entryFrame m #[.ref x, .int (Int32.ofNat i)] 2)) (T2.setTop (mkF m 8 #[.val (.ref x), .val (.int (Int32.ofNat i))] [.ref x])) := Steps.trans g2 (by
      refine XS.ifNo X2.here hexec rfl (hb hbytes d4) rfl (i0_eq_f (by decide)) ?_
      refine XS.aloadN X2.here hexec rfl (hb hbytes d7) rfl rfl ?_
      exact Steps.refl _)
    obtain ⟨T4, X4, q4, st4⟩ := X2.hget hexec hown (wk W (.fieldLink "java/lang/String" 9 "java/lang/String" "value" "[B")) hx2.2.1 (g := (mkF m 8 #[.val (.ref x), .val (.int (Int32.ofNat i))] [.ref x])) rfl (rest := []) rfl (hb hbytes d8)
    have hh4 := q4.trans hh2
    have c5 : Steps p.tables e below (s₁.setTop (entryFrame m #[.ref x, .int (Int32.ofNat i)] 2)) (T4.setTop (mkF m 12 #[.val (.ref x), .val (.int (Int32.ofNat i))] [.int (Int32.ofNat i), .ref t])) := (c3.trans (st4 _ (Steps.refl _))).trans (by
      refine XS.iloadN X4.here hexec rfl (hb hbytes d11) rfl ?_
      exact Steps.refl _)
    obtain ⟨v6, T6, X6, E6, g6⟩ := X4.callS hexec (LChA.law l t V i (lo8 (f i)) fm) hown (wks W (staticW "java/lang/String" 495 LChA.yN)) (wk W LChA.tab) (W := 0) (Nat.le_of_ble_eq_true rfl) (Nat.le_of_ble_eq_true rfl) (Nat.le_refl _) (Nat.le_refl _) (g := (mkF m 12 #[.val (.ref x), .val (.int (Int32.ofNat i))] [.int (Int32.ofNat i), .ref t])) rfl (by rw [hml]; rfl) c5 (argsL := [.ref t, .int (Int32.ofNat i)]) (rest := []) rfl rfl (by show 2 * 0 + 0 ≤ _; decide) (hb hbytes d12) (⟨rfl, hx.2.2.2.1.mv X4.warmed.alike hh4, (k2 i hi).1, s3.there X4.warmed.alike hh4, rf⟩)
    obtain ⟨rfl, q6⟩ := E6
    rw [chr8_lo8 hr.1 (k2 i hi).2] at g6
    exact ⟨T6, some (.int (f i)), _, _, _, X6, rfl, rfl, rfl, (fun h => by cases h), ⟨rfl, q6.trans hh4⟩, fun fs hl => Steps.trans g6 (X6.ireturnOut hexec hret (narrow_ch hr.1 hr.2) (Or.inr (Or.inr (Or.inr (Or.inl rfl)))) (hb hbytes d15) hl)⟩
  · exact absurd k0 (by decide)
theorem pays {l : Launch} {R : Room} {p : Program} {e : Env} {below : List Frame} {s : State} {sargs : Array Value} {len W : Nat} (x t : Addr) (V : Cell) (n : Nat) (f : Nat → Int32) (z : Int32) (fm : Value) (i : Nat) (htab : tab.before sargs s = true) (hfr : 4 ≤ R.frames) (hlo : W + 53 ≤ R.locals) :
    Back l R p e below s sargs yN len W (fun A₁ a₁ => A₁.cells + 0 ≤ R.cells ∧ A₁.slots + 0 ≤ R.slots ∧ P x t V n f z fm i a₁ A₁.U) (fun A₁ _ v₁ B₁ => E f i v₁ A₁.U B₁.U ∧ B₁.locs = A₁.locs ++ [] ∧ B₁.cells = A₁.cells + 0 ∧ B₁.slots = A₁.slots + 0) :=
  (law l x t V n f z fm i).pays htab hfr (by omega)
end ChN
end StrChars
namespace StrChars.Road
open Jvm Sem ClassFile Op Lib Jvm.Stand Jvm.Free Jvm.Free.XT
open Jvm.Lib.Cold (StaticIs)
/-- the words of String.charAt(int), the Latin-1 road alone -/
abbrev wordsChN : List Jvm.Cond := [.code ChN.yN ChN.yB 2 (some .char), .initialized ST, .fieldLink ST 9 ST "value" "[B", .fieldLink ST 38 ST "COMPACT_STRINGS" "Z", .fieldLink ST 15 ST "coder" "B", .code IsL.yN IsL.yB 1 (some .boolean), .methodLink ST 492 IsL.yN, .declares IsL.yN, .selects ST IsL.yN IsL.yN, .instanceMethod IsL.yN,
  .methodLink ST 495 LChA.yN, .static LChA.yN, .code LChA.yN LChA.yB 2 (some .char), .initialized "java/lang/StringLatin1", .methodLink "java/lang/StringLatin1" 9 JO.Str_checkIndex.yN, .static JO.Str_checkIndex.yN, .code JO.Str_checkIndex.yN JO.Str_checkIndex.yB 2 none,
  .fieldLink ST 1053 "jdk/internal/util/Preconditions" "SIOOBE_FORMATTER" "Ljava/util/function/BiFunction;", .methodLink ST 1059 JC.PreCheck.yN, .static JC.PreCheck.yN, .code JC.PreCheck.yN JC.PreCheck.yB 3 (some .int), .initialized "jdk/internal/util/Preconditions"]
theorem tabChN_of {a : Array Value} {s : State} (h : ∀ w ∈ wordsChN, w.before a s = true) : ChN.tab.before a s = true := by
  have hp : JC.PreCheck.tab.before a s = true := unparts (wk h (.code JC.PreCheck.yN JC.PreCheck.yB 3 (some .int))) (wks h (.initialized JC.PreCheck.yN.cls :: JC.PreCheck.site))
  have qk := consq hp h
  have hk : JO.Str_checkIndex.tab.before a s = true := unparts (wk qk (.code JO.Str_checkIndex.yN JO.Str_checkIndex.yB 2 none)) (wks qk (.initialized JO.Str_checkIndex.yN.cls :: JO.Str_checkIndex.site))
  have ql := consq hk h
  have hl : LChA.tab.before a s = true := unparts (wk ql (.code LChA.yN LChA.yB 2 (some .char))) (wks ql (.initialized LChA.yN.cls :: LChA.site))
  have hi : IsL.tab.before a s = true := unparts (wk h (.code IsL.yN IsL.yB 1 (some .boolean))) (wks h (.initialized IsL.yN.cls :: IsL.site))
  have q := consq hi (consq hl h)
  exact unparts (wk q (.code ChN.yN ChN.yB 2 (some .char))) (wks q (.initialized ChN.yN.cls :: ChN.site))
theorem movedChN {Z s : State} {a0 args : Array Value} (hZ : Z.Warmed39 s.vm) (hw : ∀ d ∈ wordsChN, d.before a0 Z = true) : ∀ d ∈ wordsChN, d.before args s = true := fun d hd => by
  have t : ∀ d ∈ wordsChN, (d.onTables && d.keepsFace) = true := by decide +kernel
  exact RoadKit.mv hZ (hw d hd) (t d hd)
/-- **charAt(i) OF A LATIN-1 STRING**, i < n: the char -/
theorem chN {p : Program} {l : Launch} {e : Env} {R : Room} {s : State} {args : Array Value} {below : List Frame} {len W : Nat} {Z : State} {a0 : Array Value} {h : Heap} (hZ : Z.Warmed39 s.vm) (hw : ∀ d ∈ wordsChN, d.before a0 Z = true) {kI : Nat} (wi : (Jvm.Cond.instantiable ST kI).before a0 Z = true)
    {x t : Addr} {kb : ClassId} {cs : List Int32} {N2 z : Int32} {vs : List Value} {fm : Value} {i : Nat} {j : Int32} (E : RoadKit.Exa Z h x ST) (V : RoadKit.Fld Z h x ST "value" "[B" (.ref t)) (C : RoadKit.Fld Z h x ST "coder" "B" (.int 0)) (K : RoadKit.Arv Z h t kb .byte N2 vs (.int 0)) (hc : CodA cs 0 N2 vs) (hb : ∀ c ∈ cs, ¬ c < 0 ∧ ¬ (65535 : Int32) < c)
    (S : RoadKit.Sta Z h ST "COMPACT_STRINGS" "Z" (.int z)) (hz : ¬ z = 0) (F : RoadKit.Sta Z h "jdk/internal/util/Preconditions" "SIOOBE_FORMATTER" "Ljava/util/function/BiFunction;" fm) (rf : fm.isRef = true) (l2 : cs.length ≤ 4000) (hi : i < cs.length) (hj : j = Int32.ofNat i) (hfr : 4 ≤ R.frames) (hlo : W + 53 ≤ R.locals) :
    Back l R p e below s args (⟨"java/lang/String", "charAt", "(I)C"⟩ : MethodName) len W (fun P a => a = #[.ref x, .int j] ∧ P.U.heap = h ∧ P.cells + 0 ≤ R.cells ∧ P.slots + 0 ≤ R.slots)
      (fun P _ v B => ∃ L, (v = some (.int (cs.getD i 0)) ∧ L = [] ∧ B.U.heap = h) ∧ B.locs = P.locs ++ L ∧ B.cells = P.cells + 0 ∧ B.slots = P.slots + 0) := by
  subst hj
  intro m meth c P g ig mk a X hg hsize hdg hW hn hp'
  obtain ⟨rfl, rfl, r1, r2⟩ := hp'
  have al : Z.vm.Alike P.U.vm := hZ.alike.trans X.warmed.alike
  obtain ⟨A, hx⟩ := txt_of wi al E V C K hc hb l2
  obtain ⟨v, B, X', ⟨⟨hv, hh⟩, hl, hk, hs⟩, st⟩ := ChN.pays x t A cs.length (fun j => cs.getD j 0) z fm i (tabChN_of (movedChN hZ hw)) hfr hlo m meth c P g ig mk _ X hg hsize hdg hW hn ⟨r1, r2, rfl, hx, hi, sta_is al S, hz, sta_is al F, rf⟩
  exact ⟨v, B, X', ⟨[], ⟨hv, rfl, hh⟩, hl, hk, hs⟩, st⟩
/-- what backV says of its String, as the contracts of this text ask it: cs's low bytes, coder 0 -/
theorem codOf {cs : List Int32} {n : Nat} (hn : cs.length = n) (hb : ∀ c ∈ cs, ¬ 255 < c) : CodA cs 0 (Int32.ofNat n) ((cs.map lo8).map Value.int) := Or.inl ⟨rfl, by rw [hn], by simp [List.map_map, Function.comp_def], hb⟩
end StrChars.Road
end Jvm.Pilot.@@N@@

namespace Jvm.Pilot.@@N@@
open Jvm Jvm.ClassFile Sem Op Lib Jvm.Free Jvm.Stand Jvm.LawKit Jvm.RoadKit Bundle Jvm.Pilot.@@N@@.Jvm.D
/-- Java's x >>> y on longs -/
def own_uL (x : Int64) (y : Int32) : Int64 := (x.toUInt64 >>> (y &&& 63).toInt64.toUInt64).toInt64
section Own
variable {p : Program} {l : Launch} {e : Env} {R : Room} {s : State} {m : MethodId} {args : Array Value} {below : List Frame} {meth : Method} {c : Code} {T : State} {locs : List Loc} {cells slots : Nat}
variable {ck sk : Nat} {Q : Option Value → Heap → List Loc → Prop}
/-- the run from u comes to the method's return, and Q holds there -/
def oF (p : Program) (e : Env) (below : List Frame) (s : State) (ck sk : Nat) (Q : Option Value → Heap → List Loc → Prop) (u : State) : Prop :=
  ∃ t o, Steps p.tables e below u t ∧ t.status = .running ∧ Ended t below o ∧ ∃ v L, o = .returned v ∧ Q v t.heap L ∧ FrameEnd s o t L ck sk
theorem oS {u u' : State} (h : ∀ t, Steps p.tables e below u' t → Steps p.tables e below u t) (k : oF p e below s ck sk Q u') : oF p e below s ck sk Q u := by
  obtain ⟨t, o, h1, r⟩ := k
  exact ⟨t, o, h t h1, r⟩
theorem oC {u : State} (X : Stand p l e R s m args below meth c T locs cells slots) {h : Heap} (E : T.heap = h) {f : JFrame}
    (rest : ∀ Tc, Stand p l e R s m args below meth c Tc locs cells slots → Tc.heap = h → oF p e below s ck sk Q (Tc.setTop f))
    (k : (∀ Tc, Stand p l e R s m args below meth c Tc locs cells slots → Tc.heap = h → oF p e below s ck sk Q (Tc.setTop f)) → oF p e below s ck sk Q u) : oF p e below s ck sk Q u := k rest
theorem own_ret (X : Stand p l e R s m args below meth c T locs cells slots) (hlk : meth.locks = false) {v : Option Value} (hv : meth.sig.returnType = none → v = none) {g : JFrame}
    (st : ∀ fs, (∀ (f : JFrame) (acts : List Action), f.method = m → f.locked = none → f.entered = [] → (doReturn e (T.setTop f) acts v).1 = T.setFrames fs) → Steps p.tables e below (T.setTop g) (T.setFrames fs))
    (hQ : Q v T.heap locs) (hc : cells ≤ ck) (hs : slots ≤ sk) : oF p e below s ck sk Q (T.setTop g) := by
  obtain ⟨fs, hr, hrun, hended, hW, hsame⟩ := X.leave (v := v) hv hlk
  exact ⟨_, _, st fs hr, hrun, hended, v, locs, rfl, hQ, ⟨_, rfl⟩, hW, hsame.mono hc hs⟩
theorem own_retI (X : Stand p l e R s m args below meth c T locs cells slots) (hx : p.tables.exec = Jvm.exec) (hlk : meth.locks = false) {pc : Nat} {Ls : Array Slot} {z : Int32} {rest : List Value} (hret : meth.sig.returnType = some .int)
    (hd : decode c.code pc = .ok (.ireturn, 1)) (hQ : Q (some (.int z)) T.heap locs) (hc : cells ≤ ck) (hs : slots ≤ sk) : oF p e below s ck sk Q (T.setTop (mkF m pc Ls (.int z :: rest))) :=
  own_ret X hlk (fun h => by rw [hret] at h; cases h) (fun fs hl => retOut X hx hret rfl (Or.inl ⟨rfl, Or.inl rfl, _, rfl⟩) hd hl) hQ hc hs
theorem own_retJ (X : Stand p l e R s m args below meth c T locs cells slots) (hx : p.tables.exec = Jvm.exec) (hlk : meth.locks = false) {pc : Nat} {Ls : Array Slot} {z : Int64} {rest : List Value} (hret : meth.sig.returnType = some .long)
    (hd : decode c.code pc = .ok (.lreturn, 1)) (hQ : Q (some (.long z)) T.heap locs) (hc : cells ≤ ck) (hs : slots ≤ sk) : oF p e below s ck sk Q (T.setTop (mkF m pc Ls (.long z :: rest))) :=
  own_ret X hlk (fun h => by rw [hret] at h; cases h) (fun fs hl => retOut X hx hret rfl (Or.inr (Or.inl ⟨rfl, rfl, _, rfl⟩)) hd hl) hQ hc hs
theorem own_retD (X : Stand p l e R s m args below meth c T locs cells slots) (hx : p.tables.exec = Jvm.exec) (hlk : meth.locks = false) {pc : Nat} {Ls : Array Slot} {z : UInt64} {rest : List Value} (hret : meth.sig.returnType = some .double)
    (hd : decode c.code pc = .ok (.dreturn, 1)) (hQ : Q (some (.double z)) T.heap locs) (hc : cells ≤ ck) (hs : slots ≤ sk) : oF p e below s ck sk Q (T.setTop (mkF m pc Ls (.double z :: rest))) :=
  own_ret X hlk (fun h => by rw [hret] at h; cases h) (fun fs hl => retOut X hx hret rfl (Or.inr (Or.inr (Or.inl ⟨rfl, rfl, _, rfl⟩))) hd hl) hQ hc hs
theorem own_retA (X : Stand p l e R s m args below meth c T locs cells slots) (hx : p.tables.exec = Jvm.exec) (hlk : meth.locks = false) {pc : Nat} {Ls : Array Slot} {w : Value} {t : FieldType} {rest : List Value} (hret : meth.sig.returnType = some t) (ht : t.isReference = true) (hr : w.isRef = true)
    (hd : decode c.code pc = .ok (.areturn, 1)) (hQ : Q (some w) T.heap locs) (hc : cells ≤ ck) (hs : slots ≤ sk) : oF p e below s ck sk Q (T.setTop (mkF m pc Ls (w :: rest))) :=
  own_ret X hlk (fun h => by rw [hret] at h; cases h) (fun fs hl => retOut X hx hret (by cases t <;> first | (cases ht; done) | (cases w <;> first | rfl | (cases hr; done))) (Or.inr (Or.inr (Or.inr (Or.inr ⟨rfl, ht, hr⟩)))) hd hl) hQ hc hs
theorem own_retN (X : Stand p l e R s m args below meth c T locs cells slots) (hx : p.tables.exec = Jvm.exec) (hlk : meth.locks = false) {pc : Nat} {Ls : Array Slot} {z : Int32} {t : FieldType} {rest : List Value} (hret : meth.sig.returnType = some t) (ht : t = .boolean ∨ t = .byte ∨ t = .char ∨ t = .short)
    (hd : decode c.code pc = .ok (.ireturn, 1)) (hQ : Q (some (.int (nar t z))) T.heap locs) (hc : cells ≤ ck) (hs : slots ≤ sk) : oF p e below s ck sk Q (T.setTop (mkF m pc Ls (.int z :: rest))) :=
  own_ret X hlk (fun h => by rw [hret] at h; cases h) (fun fs hl => retN X hx hret ht hd hl) hQ hc hs
theorem own_ret0 (X : Stand p l e R s m args below meth c T locs cells slots) (hx : p.tables.exec = Jvm.exec) (hlk : meth.locks = false) {pc : Nat} {Ls : Array Slot} (hret : meth.sig.returnType = none)
    (hd : decode c.code pc = .ok (.return_, 1)) (hQ : Q none T.heap locs) (hc : cells ≤ ck) (hs : slots ≤ sk) : oF p e below s ck sk Q (T.setTop (mkF m pc Ls [])) :=
  own_ret X hlk (fun _ => rfl) (fun fs hl => X.returnOut hx hret hd hl) hQ hc hs
/-- a body's contract: called with as' on the heap h it returns, and Q says what it leaves -/
def own_Con (l : Launch) (Z : State) (ws : List Jvm.Cond) (y : MethodName) (bytes : ByteArray) (maxL : Nat) (rt : Option FieldType) (rm : Room) (as' : Array Value) (h : Heap) (Q : Option Value → Heap → List Loc → Prop) : Prop :=
  MetFree l y (head1 (Jvm.Cond.code y bytes maxL rt :: ws) rm) (fun a U => a = as' ∧ Z.Warmed39 U.vm ∧ U.heap = h) (fun _ _ _ _ _ => True) (fun _ U o U' => ∃ v L, o = .returned v ∧ Q v U'.heap L ∧ FrameEnd U o U' L rm.cells rm.slots)
/-- it returns r, and the heap is as it was -/
def own_Q1 (r : Option Value) (h : Heap) : Option Value → Heap → List Loc → Prop := fun v h' L => v = r ∧ h' = h ∧ L = []
variable {Z : State} {a0 : Array Value} {h h' : Heap}
theorem own_body {ws : List Jvm.Cond} {y : MethodName} {bytes : ByteArray} {maxL : Nat} {rt : Option FieldType} {rm : Room} {as' : Array Value} (hpn : plainFor y = true)
    (H : ∀ (p : Program) (e : Env) (s : State) (m : MethodId) (below : List Frame) (meth : Method) (c : Code) (s₁ : State), Stand p l e rm s m as' below meth c s₁ [] 0 0 → p.tables.exec = Jvm.exec → c.code = bytes → c.maxLocals = maxL → meth.sig.returnType = rt → meth.locks = false → s.vm.findClass y.cls = some m.cls → meth.name = y.name → Z.Warmed39 s.vm → s₁.heap = h →
      oF p e below s rm.cells rm.slots Q (s₁.setTop (entryFrame m as' maxL))) : own_Con l Z ws y bytes maxL rt rm as' h Q := by
  refine MetFree.of_bodySF hpn hisR ?_
  intro p e s m args below meth c s₁ Bd hml0 hP hK
  obtain ⟨rfl, hZ, hh⟩ := hP
  exact H p e s m below meth c s₁ (Stand.of_body Bd) Bd.exec Bd.bytes hml0 Bd.returns (BodyLoose.notSynchronized Bd) (findClass_of_methodNamed Bd.named) (name_of_methodNamed Bd.named Bd.method).1 hZ (by rw [← hh, Bd.state]; rfl)
theorem own_callS (X : Stand p l e R s m args below meth c T locs cells slots) (hx : p.tables.exec = Jvm.exec) (hZ : Z.Warmed39 s.vm) {own : String} {index : Nat} {y : MethodName} {bytes : ByteArray} {maxL : Nat} {rt : Option FieldType} (hown : s.vm.findClass own = some m.cls)
    (w1 : (Jvm.Cond.methodLink own index y).before a0 Z = true) (w2 : (Jvm.Cond.static y).before a0 Z = true) (w4 : (Jvm.Cond.code y bytes maxL rt).before a0 Z = true) (w3 : (Jvm.Cond.initialized y.cls).before a0 Z = true) (hy : y.cls ≠ "java/lang/invoke/MethodHandle" ∧ y.cls ≠ "java/lang/invoke/VarHandle")
    (eT : T.heap = h) {rm : Room} {W : Nat} {argsL rest : List Value} (K : own_Con l Z [] y bytes maxL rt rm argsL.toArray h Q) (hf : rm.frames + 1 ≤ R.frames) (hl : W + (maxL + 11) + rm.locals ≤ R.locals)
    {g : JFrame} (hg : g.method = m) (hsize : g.locals.size = c.maxLocals) (hlen : ∀ sig, parseMethodDescriptor y.desc = some sig → argsL.length = sig.parameters.length)
    (hstack : g.stack = argsL.reverse ++ rest) (hW : 2 * g.monitorRoom + (rest.map fun v => v.category).sum ≤ W) (hdg : decode c.code g.pc = .ok (.invokestatic index, 3)) (hc : cells + rm.cells ≤ R.cells) (hs : slots + rm.slots ≤ R.slots) :
    ∃ (v : Option Value) (T' : State) (L : List Loc), Stand p l e R s m args below meth c T' (locs ++ L) (cells + rm.cells) (slots + rm.slots) ∧ Q v T'.heap L ∧
      ∀ target, Steps p.tables e below (T'.setTop { g with pc := g.pc + 3, stack := v.toList ++ rest }) target → Steps p.tables e below (T.setTop g) target := by
  obtain ⟨v, _, ⟨T', L', k', n'⟩, -, X', ⟨L, hQ, q1, q2, q3⟩, st⟩ := Jvm.LawKit.callS X hx hown (mvT hZ w1) (mvT hZ w2) (mvT hZ w3) (mvT hZ w4) hy (backOf (W := W) K hZ w4 w3 hf hl) hg hsize hlen hstack hW hdg (fun _ _ => ⟨rfl, eT, hc, hs⟩)
  dsimp only [Pt.U, Pt.locs, Pt.cells, Pt.slots] at X' q1 q2 q3 st hQ
  subst q1 q2 q3
  exact ⟨v, T', L, X', hQ, st⟩
theorem own_callSP (X : Stand p l e R s m args below meth c T locs cells slots) (hx : p.tables.exec = Jvm.exec) (hZ : Z.Warmed39 s.vm) {own : String} {index : Nat} {y : MethodName} {bytes : ByteArray} {maxL : Nat} {rt : Option FieldType} (hown : s.vm.findClass own = some m.cls)
    (w1 : (Jvm.Cond.methodLink own index y).before a0 Z = true) (w2 : (Jvm.Cond.static y).before a0 Z = true) (w4 : (Jvm.Cond.code y bytes maxL rt).before a0 Z = true) (w3 : (Jvm.Cond.initialized y.cls).before a0 Z = true) (hy : y.cls ≠ "java/lang/invoke/MethodHandle" ∧ y.cls ≠ "java/lang/invoke/VarHandle")
    (eT : T.heap = h) {rf rl : Nat} {W : Nat} {argsL rest : List Value} {r : Value} (K : own_Con l Z [] y bytes maxL rt { frames := rf, cells := 0, slots := 0, locals := rl } argsL.toArray h (own_Q1 (some r) h)) (hf : rf + 1 ≤ R.frames) (hl : W + (maxL + 11) + rl ≤ R.locals)
    {g : JFrame} (hg : g.method = m) (hsize : g.locals.size = c.maxLocals) (hlen : ∀ sig, parseMethodDescriptor y.desc = some sig → argsL.length = sig.parameters.length)
    (hstack : g.stack = argsL.reverse ++ rest) (hW : 2 * g.monitorRoom + (rest.map fun v => v.category).sum ≤ W) (hdg : decode c.code g.pc = .ok (.invokestatic index, 3)) (hc : cells ≤ R.cells) (hs : slots ≤ R.slots) :
    ∃ T' : State, Stand p l e R s m args below meth c T' locs cells slots ∧ T'.heap = h ∧
      ∀ target, Steps p.tables e below (T'.setTop { g with pc := g.pc + 3, stack := r :: rest }) target → Steps p.tables e below (T.setTop g) target := by
  obtain ⟨v, T', L, X', ⟨rfl, hh, rfl⟩, st⟩ := own_callS X hx hZ hown w1 w2 w4 w3 hy eT (W := W) K hf hl hg hsize hlen hstack hW hdg hc hs
  rw [List.append_nil] at X'
  exact ⟨T', X', hh, st⟩
theorem own_callI (X : Stand p l e R s m args below meth c T locs cells slots) (hx : p.tables.exec = Jvm.exec) (hZ : Z.Warmed39 s.vm) {own : String} {index : Nat} {y : MethodName} (hy1 : y.name = "<init>") {bytes : ByteArray} {maxL : Nat} (hown : s.vm.findClass own = some m.cls)
    (w1 : (Jvm.Cond.methodLink own index y).before a0 Z = true) (w2 : (Jvm.Cond.instanceMethod y).before a0 Z = true) (w4 : (Jvm.Cond.code y bytes maxL none).before a0 Z = true) (w3 : (Jvm.Cond.initialized y.cls).before a0 Z = true) (hy : y.cls ≠ "java/lang/invoke/MethodHandle" ∧ y.cls ≠ "java/lang/invoke/VarHandle")
    (eT : T.heap = h) {rm : Room} {W : Nat} {a : Addr} {argsL rest : List Value} (K : own_Con l Z [] y bytes maxL none rm (.ref a :: argsL).toArray h Q) (hf : rm.frames + 1 ≤ R.frames) (hl : W + (maxL + 11) + rm.locals ≤ R.locals)
    {g : JFrame} (hg : g.method = m) (hsize : g.locals.size = c.maxLocals) (hlen : ∀ sig, parseMethodDescriptor y.desc = some sig → argsL.length = sig.parameters.length)
    (hstack : g.stack = argsL.reverse ++ .ref a :: rest) (hW : 2 * g.monitorRoom + (rest.map fun v => v.category).sum ≤ W) (hdg : decode c.code g.pc = .ok (.invokespecial index, 3)) (hc : cells + rm.cells ≤ R.cells) (hs : slots + rm.slots ≤ R.slots) :
    ∃ (v : Option Value) (T' : State) (L : List Loc), Stand p l e R s m args below meth c T' (locs ++ L) (cells + rm.cells) (slots + rm.slots) ∧ Q v T'.heap L ∧
      ∀ target, Steps p.tables e below (T'.setTop { g with pc := g.pc + 3, stack := v.toList ++ rest }) target → Steps p.tables e below (T.setTop g) target := by
  obtain ⟨v, _, ⟨T', L', k', n'⟩, -, X', ⟨L, hQ, q1, q2, q3⟩, st⟩ := X.specialBack hx hy1 hown (mvT hZ w1) (mvT hZ w2) (mvT hZ w4) hy (backOf (W := W) K hZ w4 w3 hf hl) hg hsize (Steps.refl _) (a := a) hlen hstack hW hdg (fun _ _ => ⟨rfl, eT, hc, hs⟩)
  dsimp only [Pt.U, Pt.locs, Pt.cells, Pt.slots] at X' q1 q2 q3 st hQ
  subst q1 q2 q3
  exact ⟨v, T', L, X', hQ, fun t k => st.trans k⟩
theorem own_callIP (X : Stand p l e R s m args below meth c T locs cells slots) (hx : p.tables.exec = Jvm.exec) (hZ : Z.Warmed39 s.vm) {own : String} {index : Nat} {y : MethodName} (hy1 : y.name = "<init>") {bytes : ByteArray} {maxL : Nat} (hown : s.vm.findClass own = some m.cls)
    (w1 : (Jvm.Cond.methodLink own index y).before a0 Z = true) (w2 : (Jvm.Cond.instanceMethod y).before a0 Z = true) (w4 : (Jvm.Cond.code y bytes maxL none).before a0 Z = true) (w3 : (Jvm.Cond.initialized y.cls).before a0 Z = true) (hy : y.cls ≠ "java/lang/invoke/MethodHandle" ∧ y.cls ≠ "java/lang/invoke/VarHandle")
    (eT : T.heap = h) {rf rl : Nat} {W : Nat} {a : Addr} {argsL rest : List Value} (K : own_Con l Z [] y bytes maxL none { frames := rf, cells := 0, slots := 0, locals := rl } (.ref a :: argsL).toArray h (own_Q1 none h)) (hf : rf + 1 ≤ R.frames) (hl : W + (maxL + 11) + rl ≤ R.locals)
    {g : JFrame} (hg : g.method = m) (hsize : g.locals.size = c.maxLocals) (hlen : ∀ sig, parseMethodDescriptor y.desc = some sig → argsL.length = sig.parameters.length)
    (hstack : g.stack = argsL.reverse ++ .ref a :: rest) (hW : 2 * g.monitorRoom + (rest.map fun v => v.category).sum ≤ W) (hdg : decode c.code g.pc = .ok (.invokespecial index, 3)) (hc : cells ≤ R.cells) (hs : slots ≤ R.slots) :
    ∃ T' : State, Stand p l e R s m args below meth c T' locs cells slots ∧ T'.heap = h ∧
      ∀ target, Steps p.tables e below (T'.setTop { g with pc := g.pc + 3, stack := rest }) target → Steps p.tables e below (T.setTop g) target := by
  obtain ⟨v, T', L, X', ⟨rfl, hh, rfl⟩, st⟩ := own_callI X hx hZ hy1 hown w1 w2 w4 w3 hy eT (W := W) K hf hl hg hsize hlen hstack hW hdg hc hs
  rw [List.append_nil] at X'
  exact ⟨T', X', hh, st⟩
theorem own_callV (X : Stand p l e R s m args below meth c T locs cells slots) (hx : p.tables.exec = Jvm.exec) (hZ : Z.Warmed39 s.vm) {own C : String} {index : Nat} {y z : MethodName} {bytes : ByteArray} {maxL : Nat} {rt : Option FieldType} (hown : s.vm.findClass own = some m.cls)
    (w1 : (Jvm.Cond.methodLink own index y).before a0 Z = true) (w2 : (Jvm.Cond.declares y).before a0 Z = true) (hnf : NotFace s y) (ws : (Jvm.Cond.selects C y z).before a0 Z = true) (wi : (Jvm.Cond.instanceMethod z).before a0 Z = true) (hy : y.cls ≠ "java/lang/invoke/MethodHandle" ∧ y.cls ≠ "java/lang/invoke/VarHandle")
    (eT : T.heap = h) {b : Addr} (E : Exa Z h b C) {rm : Room} {W : Nat} {argsL rest : List Value} (K : own_Con l Z [] z bytes maxL rt rm (.ref b :: argsL).toArray h Q) (w4 : (Jvm.Cond.code z bytes maxL rt).before a0 Z = true) (w3 : (Jvm.Cond.initialized z.cls).before a0 Z = true) (hf : rm.frames + 1 ≤ R.frames) (hl : W + (maxL + 11) + rm.locals ≤ R.locals)
    {g : JFrame} (hg : g.method = m) (hsize : g.locals.size = c.maxLocals) (hlen : ∀ sig, parseMethodDescriptor y.desc = some sig → argsL.length = sig.parameters.length)
    (hstack : g.stack = argsL.reverse ++ .ref b :: rest) (hW : 2 * g.monitorRoom + (rest.map fun v => v.category).sum ≤ W) (hdg : decode c.code g.pc = .ok (.invokevirtual index, 3)) (hc : cells + rm.cells ≤ R.cells) (hs : slots + rm.slots ≤ R.slots) :
    ∃ (v : Option Value) (T' : State) (L : List Loc), Stand p l e R s m args below meth c T' (locs ++ L) (cells + rm.cells) (slots + rm.slots) ∧ Q v T'.heap L ∧
      ∀ target, Steps p.tables e below (T'.setTop { g with pc := g.pc + 3, stack := v.toList ++ rest }) target → Steps p.tables e below (T.setTop g) target := by
  obtain ⟨cq, kq, qa, qb, qc⟩ := isOf hZ eT E
  obtain ⟨v, _, ⟨T', L', k', n'⟩, -, X', ⟨L, hQ, q1, q2, q3⟩, st⟩ := X.virtualBack hx hown (mvT hZ w1) (mvT hZ w2) hnf (mvT hZ ws) (mvT hZ wi) hy (backOf (W := W) K hZ w4 w3 hf hl) qa qc hg hsize (Steps.refl _) hlen hstack hW hdg (fun _ _ => ⟨rfl, eT, hc, hs⟩)
  dsimp only [Pt.U, Pt.locs, Pt.cells, Pt.slots] at X' q1 q2 q3 st hQ
  subst q1 q2 q3
  exact ⟨v, T', L, X', hQ, fun t k => st.trans k⟩
theorem own_callVP (X : Stand p l e R s m args below meth c T locs cells slots) (hx : p.tables.exec = Jvm.exec) (hZ : Z.Warmed39 s.vm) {own C : String} {index : Nat} {y z : MethodName} {bytes : ByteArray} {maxL : Nat} {rt : Option FieldType} (hown : s.vm.findClass own = some m.cls)
    (w1 : (Jvm.Cond.methodLink own index y).before a0 Z = true) (w2 : (Jvm.Cond.declares y).before a0 Z = true) (hnf : NotFace s y) (ws : (Jvm.Cond.selects C y z).before a0 Z = true) (wi : (Jvm.Cond.instanceMethod z).before a0 Z = true) (hy : y.cls ≠ "java/lang/invoke/MethodHandle" ∧ y.cls ≠ "java/lang/invoke/VarHandle")
    (eT : T.heap = h) {b : Addr} (E : Exa Z h b C) {rf rl : Nat} {W : Nat} {argsL rest : List Value} {r : Value} (K : own_Con l Z [] z bytes maxL rt { frames := rf, cells := 0, slots := 0, locals := rl } (.ref b :: argsL).toArray h (own_Q1 (some r) h)) (w4 : (Jvm.Cond.code z bytes maxL rt).before a0 Z = true) (w3 : (Jvm.Cond.initialized z.cls).before a0 Z = true) (hf : rf + 1 ≤ R.frames) (hl : W + (maxL + 11) + rl ≤ R.locals)
    {g : JFrame} (hg : g.method = m) (hsize : g.locals.size = c.maxLocals) (hlen : ∀ sig, parseMethodDescriptor y.desc = some sig → argsL.length = sig.parameters.length)
    (hstack : g.stack = argsL.reverse ++ .ref b :: rest) (hW : 2 * g.monitorRoom + (rest.map fun v => v.category).sum ≤ W) (hdg : decode c.code g.pc = .ok (.invokevirtual index, 3)) (hc : cells ≤ R.cells) (hs : slots ≤ R.slots) :
    ∃ T' : State, Stand p l e R s m args below meth c T' locs cells slots ∧ T'.heap = h ∧
      ∀ target, Steps p.tables e below (T'.setTop { g with pc := g.pc + 3, stack := r :: rest }) target → Steps p.tables e below (T.setTop g) target := by
  obtain ⟨v, T', L, X', ⟨rfl, hh, rfl⟩, st⟩ := own_callV X hx hZ hown w1 w2 hnf ws wi hy eT E (W := W) K w4 w3 hf hl hg hsize hlen hstack hW hdg hc hs
  rw [List.append_nil] at X'
  exact ⟨T', X', hh, st⟩
theorem own_kext {h h' : Heap} (K : Keep h h' []) : Ext h h' := ⟨K.1, fun a c q => K.2.1 a c q nin0⟩
theorem own_callIB (X : Stand p l e R s m args below meth c T locs cells slots) (hx : p.tables.exec = Jvm.exec) (hZ : Z.Warmed39 s.vm) {own : String} {index : Nat} {y : MethodName} (hy1 : y.name = "<init>") {bytes : ByteArray} {maxL : Nat} (hown : s.vm.findClass own = some m.cls)
    (w1 : (Jvm.Cond.methodLink own index y).before a0 Z = true) (w2 : (Jvm.Cond.instanceMethod y).before a0 Z = true) (w4 : (Jvm.Cond.code y bytes maxL none).before a0 Z = true) (hy : y.cls ≠ "java/lang/invoke/MethodHandle" ∧ y.cls ≠ "java/lang/invoke/VarHandle")
    (eT : T.heap = h) {W kc ks : Nat} {a : Addr} {argsL rest : List Value} (K : Back l R p e below s args y 3 W (fun A a' => a' = (.ref a :: argsL).toArray ∧ A.U.heap = h ∧ A.cells + kc ≤ R.cells ∧ A.slots + ks ≤ R.slots) (fun A _ v B => ∃ L, Q v B.U.heap L ∧ B.locs = A.locs ++ L ∧ B.cells = A.cells + kc ∧ B.slots = A.slots + ks))
    {g : JFrame} (hg : g.method = m) (hsize : g.locals.size = c.maxLocals) (hlen : ∀ sig, parseMethodDescriptor y.desc = some sig → argsL.length = sig.parameters.length)
    (hstack : g.stack = argsL.reverse ++ .ref a :: rest) (hW : 2 * g.monitorRoom + (rest.map fun v => v.category).sum ≤ W) (hdg : decode c.code g.pc = .ok (.invokespecial index, 3)) (hc : cells + kc ≤ R.cells) (hs : slots + ks ≤ R.slots) :
    ∃ (v : Option Value) (T' : State) (L : List Loc), Stand p l e R s m args below meth c T' (locs ++ L) (cells + kc) (slots + ks) ∧ Q v T'.heap L ∧
      ∀ target, Steps p.tables e below (T'.setTop { g with pc := g.pc + 3, stack := v.toList ++ rest }) target → Steps p.tables e below (T.setTop g) target := by
  obtain ⟨v, _, ⟨T', L', k', n'⟩, -, X', ⟨L, hQ, q1, q2, q3⟩, st⟩ := X.specialBack hx hy1 hown (mvT hZ w1) (mvT hZ w2) (mvT hZ w4) hy K hg hsize (Steps.refl _) (a := a) hlen hstack hW hdg (fun _ _ => ⟨rfl, eT, hc, hs⟩)
  dsimp only [Pt.U, Pt.locs, Pt.cells, Pt.slots] at X' q1 q2 q3 st hQ
  subst q1 q2 q3
  exact ⟨v, T', L, X', hQ, fun t k => st.trans k⟩
theorem own_callVB (X : Stand p l e R s m args below meth c T locs cells slots) (hx : p.tables.exec = Jvm.exec) (hZ : Z.Warmed39 s.vm) {own C : String} {index : Nat} {y z : MethodName} (hown : s.vm.findClass own = some m.cls)
    (w1 : (Jvm.Cond.methodLink own index y).before a0 Z = true) (w2 : (Jvm.Cond.declares y).before a0 Z = true) (hnf : NotFace s y) (ws : (Jvm.Cond.selects C y z).before a0 Z = true) (wi : (Jvm.Cond.instanceMethod z).before a0 Z = true) (hy : y.cls ≠ "java/lang/invoke/MethodHandle" ∧ y.cls ≠ "java/lang/invoke/VarHandle")
    (eT : T.heap = h) {b : Addr} (E : Exa Z h b C) {W kc ks : Nat} {argsL rest : List Value} (K : Back l R p e below s args z 3 W (fun A a' => a' = (.ref b :: argsL).toArray ∧ A.U.heap = h ∧ A.cells + kc ≤ R.cells ∧ A.slots + ks ≤ R.slots) (fun A _ v B => ∃ L, Q v B.U.heap L ∧ B.locs = A.locs ++ L ∧ B.cells = A.cells + kc ∧ B.slots = A.slots + ks))
    {g : JFrame} (hg : g.method = m) (hsize : g.locals.size = c.maxLocals) (hlen : ∀ sig, parseMethodDescriptor y.desc = some sig → argsL.length = sig.parameters.length)
    (hstack : g.stack = argsL.reverse ++ .ref b :: rest) (hW : 2 * g.monitorRoom + (rest.map fun v => v.category).sum ≤ W) (hdg : decode c.code g.pc = .ok (.invokevirtual index, 3)) (hc : cells + kc ≤ R.cells) (hs : slots + ks ≤ R.slots) :
    ∃ (v : Option Value) (T' : State) (L : List Loc), Stand p l e R s m args below meth c T' (locs ++ L) (cells + kc) (slots + ks) ∧ Q v T'.heap L ∧
      ∀ target, Steps p.tables e below (T'.setTop { g with pc := g.pc + 3, stack := v.toList ++ rest }) target → Steps p.tables e below (T.setTop g) target := by
  obtain ⟨cq, kq, qa, qb, qc⟩ := isOf hZ eT E
  obtain ⟨v, _, ⟨T', L', k', n'⟩, -, X', ⟨L, hQ, q1, q2, q3⟩, st⟩ := X.virtualBack hx hown (mvT hZ w1) (mvT hZ w2) hnf (mvT hZ ws) (mvT hZ wi) hy K qa qc hg hsize (Steps.refl _) hlen hstack hW hdg (fun _ _ => ⟨rfl, eT, hc, hs⟩)
  dsimp only [Pt.U, Pt.locs, Pt.cells, Pt.slots] at X' q1 q2 q3 st hQ
  subst q1 q2 q3
  exact ⟨v, T', L, X', hQ, fun t k => st.trans k⟩
theorem own_cl_eq {x y : Int64} (h : x = y) : Jvm.Free.XT.cmpL x y = 0 := by
  subst h; unfold Jvm.Free.XT.cmpL
  rw [if_neg (by rw [Int64.lt_iff_toInt_lt]; omega), if_pos rfl]
theorem own_cl_eq_n {x y : Int64} (h : ¬ x = y) : ¬ Jvm.Free.XT.cmpL x y = 0 := by
  unfold Jvm.Free.XT.cmpL
  by_cases h1 : y < x
  · rw [if_pos h1]; decide
  · rw [if_neg h1, if_neg h]; decide
theorem own_cl_gt {x y : Int64} (h : y < x) : (0 : Int32) < Jvm.Free.XT.cmpL x y := by
  unfold Jvm.Free.XT.cmpL; rw [if_pos h]; decide
theorem own_cl_gt_n {x y : Int64} (h : ¬ y < x) : ¬ (0 : Int32) < Jvm.Free.XT.cmpL x y := by
  unfold Jvm.Free.XT.cmpL; rw [if_neg h]
  by_cases h1 : x = y
  · rw [if_pos h1]; decide
  · rw [if_neg h1]; decide
theorem own_cl_lt {x y : Int64} (h : x < y) : Jvm.Free.XT.cmpL x y < (0 : Int32) := by
  unfold Jvm.Free.XT.cmpL
  rw [if_neg (by rw [Int64.lt_iff_toInt_lt] at h ⊢; omega), if_neg (by intro q; subst q; rw [Int64.lt_iff_toInt_lt] at h; omega)]; decide
theorem own_cl_lt_n {x y : Int64} (h : ¬ x < y) : ¬ Jvm.Free.XT.cmpL x y < (0 : Int32) := by
  unfold Jvm.Free.XT.cmpL
  by_cases h1 : y < x
  · rw [if_pos h1]; decide
  · rw [if_neg h1]
    have h2 : x = y := by
      rw [Int64.lt_iff_toInt_lt] at h h1
      exact Int64.toInt_inj.mp (by omega)
    rw [if_pos h2]; decide
theorem own_eq_int {a : Array Value} {s : State} {t : Term} {k : Int32} (h : (Jvm.Cond.eq t (Term.int k)).value a s none s [] = some true) : t.eval a s none [] s = some (.int k) := by
  obtain ⟨x, y, hx, hy, k1, k2⟩ := cmp_v (Or.inl h)
  obtain rfl : y = .int k := Option.some.inj (hy.symm.trans (Term.int_eval k))
  obtain ⟨z, rfl⟩ := k2
  rw [hx, gotT (Cond.eq_ints hx hy) h]
end Own
section OwnArr
variable {p : Program} {l : Launch} {e : Env} {R : Room} {s : State} {m : MethodId} {args : Array Value} {below : List Frame} {meth : Method} {c : Code} {T : State} {locs : List Loc} {cells slots : Nat}
variable {Z : State} {a0 : Array Value} {h h' : Heap} {a b : Addr} {ty : FieldType} {n k : Nat} {f f' : Nat → Value} {v : Value} {sl : Nat} {j x : Int32} {ws : List Addr}
/-- an array of n components, the i-th of which is f i -/
def own_Ar (Z : State) (h : Heap) (a : Addr) (ty : FieldType) (n : Nat) (f : Nat → Value) : Prop := n < 2 ^ 31 ∧ ∃ cl : Cell, Arr Z h a cl ty ∧ cl.slots.size = n ∧ ∀ i, i < n → cl.slots[i]? = some (f i)
def own_up (f : Nat → Value) (k : Nat) (v : Value) : Nat → Value := fun i => if i = k then v else f i
theorem own_Ar.lt (F : own_Ar Z h a ty n f) : a < h.size := by obtain ⟨_, c, A, -⟩ := F; exact A.lt
theorem own_Ar.ext (F : own_Ar Z h a ty n f) (E : Ext h h') : own_Ar Z h' a ty n f := by obtain ⟨q, c, A, r⟩ := F; exact ⟨q, c, A.ext E, r⟩
theorem own_Ar.other (F : own_Ar Z h b ty n f) (W : Wr h h' a sl v) (q : b ≠ a) : own_Ar Z h' b ty n f := by obtain ⟨q', c, A, r⟩ := F; exact ⟨q', c, A.other W q, r⟩
theorem own_Ar.keep (F : own_Ar Z h a ty n f) (K : Keep h h' ws) (q : a ∉ ws) : own_Ar Z h' a ty n f := by obtain ⟨q', c, A, r⟩ := F; exact ⟨q', c, ⟨K.2.1 a c A.1 q, A.2⟩, r⟩
theorem own_Ar.congr (F : own_Ar Z h a ty n f) (q : ∀ i, i < n → f i = f' i) : own_Ar Z h a ty n f' := by obtain ⟨q', c, A, r, H⟩ := F; exact ⟨q', c, A, r, fun i hi => by rw [← q i hi]; exact H i hi⟩
theorem own_Ar.arv (F : own_Ar Z h a ty n f) {N : Int32} (hN : N.toInt = (n : Int)) {vs : List Value} {d : Value} (hv : ∀ i, i < n → f i = vs.getD i d) (hf : ∀ i, i < n → fits ty (vs.getD i d) = true) : ∃ k, Arv Z h a k ty N vs d := by
  obtain ⟨_, c, A, r, H⟩ := F
  have h1 : ¬ N < 0 := by rw [Int32.lt_iff_toInt_lt, show (0 : Int32).toInt = 0 from rfl]; omega
  have h2 := nat_of h1
  have h3 : c.slots.size = N.toNatClampNeg := by omega
  exact ⟨c.cls, c, A, rfl, h3, h1, fun i hi => by rw [H i (by omega), hv i (by omega)], fun i hi => hf i (by omega)⟩
theorem own_in (hj : j.toInt = (k : Int)) (hk : k < n) : ¬ (j < 0 ∨ n ≤ j.toNatClampNeg) ∧ j.toNatClampNeg = k := by
  have h1 : ¬ j < 0 := by rw [Int32.lt_iff_toInt_lt, show (0 : Int32).toInt = 0 from rfl]; omega
  have h2 := nat_of h1
  refine ⟨fun q => ?_, by omega⟩
  rcases q with q | q
  · exact h1 q
  · omega
theorem own_Ar.set (F : own_Ar Z h a ty n f) (W : Wr h h' a k v) (hk : k < n) : own_Ar Z h' a ty n (own_up f k v) := by
  obtain ⟨q, c, A, r, H⟩ := F
  obtain ⟨c', g1, g2, g3, g4, -, g6, g7⟩ := wr_at W A.1
  obtain ⟨g8, g9, -⟩ := g7 rfl
  refine ⟨q, c', ?_, by rw [g4, r], fun i hi => ?_⟩
  · rw [g8]; exact A.same W
  · unfold own_up
    by_cases hik : i = k
    · subst hik; rw [if_pos rfl]; exact g9
    · rw [if_neg hik, g6 i hik]; exact H i hi
theorem own_newP (X : Stand p l e R s m args below meth c T locs cells slots) (hx : p.tables.exec = Jvm.exec) (hZ : Z.Warmed39 s.vm) {aty : ArrayType} (w : (Jvm.Cond.arrayClass (newarray.typeOf aty)).before a0 Z = true) (eT : T.heap = h) {g : JFrame} (hg : g.method = m) (hd : decode c.code g.pc = .ok (.newarray aty, 2)) {rest : List Value} (hs : g.stack = .int j :: rest)
    (hj : j.toInt = (k : Int)) {cap : Nat} (hcap : k ≤ cap) (hb : cap * 8 ≤ 536870912) (hc : cells + 1 ≤ R.cells) (hl : slots + cap ≤ R.slots) :
    ∃ T' h', Stand p l e R s m args below meth c T' locs (cells + 1) (slots + cap) ∧ T'.heap = h' ∧ Ext h h' ∧ own_Ar Z h' h.size (newarray.typeOf aty) k (fun _ => defaultValue (newarray.typeOf aty)) ∧
      ∀ target, Steps p.tables e below (T'.setTop { g with pc := g.pc + 2, stack := .ref h.size :: rest }) target → Steps p.tables e below (T.setTop g) target := by
  have h1 : ¬ j < 0 := by rw [Int32.lt_iff_toInt_lt, show (0 : Int32).toInt = 0 from rfl]; omega
  have h2 : j.toNatClampNeg = k := by have := nat_of h1; omega
  obtain ⟨T', h', cA, X', e', E', A', st⟩ := newP X hx hZ w eT hg hd hs h1 (cap := cap) (by omega) hb hc hl
  refine ⟨T', h', X', e', E', ⟨by have := j.toInt_lt; omega, _, A', by rw [sz_new]; exact h2, fun i hi => ?_⟩, st⟩
  simp only [newA, h2, Array.getElem?_replicate, hi, if_true]
theorem own_stB (X : Stand p l e R s m args below meth c T locs cells slots) (hx : p.tables.exec = Jvm.exec) (hZ : Z.Warmed39 s.vm) (eT : T.heap = h) (A : own_Ar Z h a .byte n f) (hj : j.toInt = (k : Int)) (hk : k < n) {g : JFrame} (hg : g.method = m) {rest : List Value} (hs : g.stack = .int x :: .int j :: .ref a :: rest) (hd : decode c.code g.pc = .ok (.bastore, 1)) :
    ∃ T' h', Stand p l e R s m args below meth c T' (locs ++ [⟨a, k⟩]) cells slots ∧ T'.heap = h' ∧ Wr h h' a k (.int x.toInt8.toInt32) ∧ ∀ target, Steps p.tables e below (T'.setTop { g with pc := g.pc + 1, stack := rest }) target → Steps p.tables e below (T.setTop g) target := by
  obtain ⟨_, cl, Ar, q, _⟩ := A
  obtain ⟨T', h', X', e', W, st⟩ := stB X hx hZ eT Ar (j := j) (x := x) (by rw [q]; exact (own_in hj hk).1) hg hs hd
  rw [(own_in hj hk).2] at X' W
  exact ⟨T', h', X', e', W, st⟩
theorem own_stI (X : Stand p l e R s m args below meth c T locs cells slots) (hx : p.tables.exec = Jvm.exec) (hZ : Z.Warmed39 s.vm) (eT : T.heap = h) (A : own_Ar Z h a .int n f) (hj : j.toInt = (k : Int)) (hk : k < n) {g : JFrame} (hg : g.method = m) {rest : List Value} (hs : g.stack = .int x :: .int j :: .ref a :: rest) (hd : decode c.code g.pc = .ok (.iastore, 1)) :
    ∃ T' h', Stand p l e R s m args below meth c T' (locs ++ [⟨a, k⟩]) cells slots ∧ T'.heap = h' ∧ Wr h h' a k (.int x) ∧ ∀ target, Steps p.tables e below (T'.setTop { g with pc := g.pc + 1, stack := rest }) target → Steps p.tables e below (T.setTop g) target := by
  obtain ⟨_, cl, Ar, q, _⟩ := A
  obtain ⟨T', h', X', e', W, st⟩ := stI X hx hZ eT Ar (j := j) (x := x) (by rw [q]; exact (own_in hj hk).1) hg hs hd
  rw [(own_in hj hk).2] at X' W
  exact ⟨T', h', X', e', W, st⟩
theorem own_stJ {y : Int64} (X : Stand p l e R s m args below meth c T locs cells slots) (hx : p.tables.exec = Jvm.exec) (hZ : Z.Warmed39 s.vm) (eT : T.heap = h) (A : own_Ar Z h a .long n f) (hj : j.toInt = (k : Int)) (hk : k < n) {g : JFrame} (hg : g.method = m) {rest : List Value} (hs : g.stack = .long y :: .int j :: .ref a :: rest) (hd : decode c.code g.pc = .ok (.lastore, 1)) :
    ∃ T' h', Stand p l e R s m args below meth c T' (locs ++ [⟨a, k⟩]) cells slots ∧ T'.heap = h' ∧ Wr h h' a k (.long y) ∧ ∀ target, Steps p.tables e below (T'.setTop { g with pc := g.pc + 1, stack := rest }) target → Steps p.tables e below (T.setTop g) target := by
  obtain ⟨_, cl, Ar, q, _⟩ := A
  obtain ⟨T', h', X', e', W, st⟩ := stJ X hx hZ eT Ar (j := j) (x := y) (by rw [q]; exact (own_in hj hk).1) hg hs hd
  rw [(own_in hj hk).2] at X' W
  exact ⟨T', h', X', e', W, st⟩
theorem own_stC (X : Stand p l e R s m args below meth c T locs cells slots) (hx : p.tables.exec = Jvm.exec) (hZ : Z.Warmed39 s.vm) (eT : T.heap = h) (A : own_Ar Z h a .char n f) (hj : j.toInt = (k : Int)) (hk : k < n) {g : JFrame} (hg : g.method = m) {rest : List Value} (hs : g.stack = .int x :: .int j :: .ref a :: rest) (hd : decode c.code g.pc = .ok (.castore, 1)) :
    ∃ T' h', Stand p l e R s m args below meth c T' (locs ++ [⟨a, k⟩]) cells slots ∧ T'.heap = h' ∧ Wr h h' a k (.int x.toUInt32.toUInt16.toUInt32.toInt32) ∧ ∀ target, Steps p.tables e below (T'.setTop { g with pc := g.pc + 1, stack := rest }) target → Steps p.tables e below (T.setTop g) target := by
  obtain ⟨_, cl, Ar, q, _⟩ := A
  obtain ⟨T', h', X', e', W, st⟩ := stC X hx hZ eT Ar (j := j) (x := x) (by rw [q]; exact (own_in hj hk).1) hg hs hd
  rw [(own_in hj hk).2] at X' W
  exact ⟨T', h', X', e', W, st⟩
theorem own_ldI (X : Stand p l e R s m args below meth c T locs cells slots) (hx : p.tables.exec = Jvm.exec) (hZ : Z.Warmed39 s.vm) (eT : T.heap = h) (A : own_Ar Z h a .int n f) (hj : j.toInt = (k : Int)) (hk : k < n) (hv : f k = v) {g : JFrame} (hg : g.method = m) {rest : List Value} (hs : g.stack = .int j :: .ref a :: rest) (hd : decode c.code g.pc = .ok (.iaload, 1)) (target : State)
    (kt : Steps p.tables e below (T.setTop { g with pc := g.pc + 1, stack := v :: rest }) target) : Steps p.tables e below (T.setTop g) target := by
  obtain ⟨_, cl, Ar, q, H⟩ := A
  exact X.iaload hx (by rw [eT]; exact Ar.1) (State.isArrayOf_alike hZ.alike Ar.2.1) Ar.2.2 (by rw [q]; exact (own_in hj hk).1) (by rw [(own_in hj hk).2, ← hv]; exact H k hk) hg hs hd target kt
theorem own_ldJ (X : Stand p l e R s m args below meth c T locs cells slots) (hx : p.tables.exec = Jvm.exec) (hZ : Z.Warmed39 s.vm) (eT : T.heap = h) (A : own_Ar Z h a .long n f) (hj : j.toInt = (k : Int)) (hk : k < n) (hv : f k = v) {g : JFrame} (hg : g.method = m) {rest : List Value} (hs : g.stack = .int j :: .ref a :: rest) (hd : decode c.code g.pc = .ok (.laload, 1)) (target : State)
    (kt : Steps p.tables e below (T.setTop { g with pc := g.pc + 1, stack := v :: rest }) target) : Steps p.tables e below (T.setTop g) target := by
  obtain ⟨_, cl, Ar, q, H⟩ := A
  exact X.laload hx (by rw [eT]; exact Ar.1) (State.isArrayOf_alike hZ.alike Ar.2.1) Ar.2.2 (by rw [q]; exact (own_in hj hk).1) (by rw [(own_in hj hk).2, ← hv]; exact H k hk) hg hs hd target kt
theorem own_ldB (X : Stand p l e R s m args below meth c T locs cells slots) (hx : p.tables.exec = Jvm.exec) (hZ : Z.Warmed39 s.vm) (eT : T.heap = h) (A : own_Ar Z h a .byte n f) (hj : j.toInt = (k : Int)) (hk : k < n) (hv : f k = v) {g : JFrame} (hg : g.method = m) {rest : List Value} (hs : g.stack = .int j :: .ref a :: rest) (hd : decode c.code g.pc = .ok (.baload, 1)) (target : State)
    (kt : Steps p.tables e below (T.setTop { g with pc := g.pc + 1, stack := v :: rest }) target) : Steps p.tables e below (T.setTop g) target := by
  obtain ⟨_, cl, Ar, q, H⟩ := A
  exact X.baloadBytes hx (by rw [eT]; exact Ar.1) (State.isArrayOf_alike hZ.alike Ar.2.1) Ar.2.2 (by rw [q]; exact (own_in hj hk).1) (by rw [(own_in hj hk).2, ← hv]; exact H k hk) hg hs hd target kt
theorem own_ldC (X : Stand p l e R s m args below meth c T locs cells slots) (hx : p.tables.exec = Jvm.exec) (hZ : Z.Warmed39 s.vm) (eT : T.heap = h) (A : own_Ar Z h a .char n f) (hj : j.toInt = (k : Int)) (hk : k < n) (hv : f k = v) {g : JFrame} (hg : g.method = m) {rest : List Value} (hs : g.stack = .int j :: .ref a :: rest) (hd : decode c.code g.pc = .ok (.caload, 1)) (target : State)
    (kt : Steps p.tables e below (T.setTop { g with pc := g.pc + 1, stack := v :: rest }) target) : Steps p.tables e below (T.setTop g) target := by
  obtain ⟨_, cl, Ar, q, H⟩ := A
  exact X.caload hx (by rw [eT]; exact Ar.1) (State.isArrayOf_alike hZ.alike Ar.2.1) Ar.2.2 (by rw [q]; exact (own_in hj hk).1) (by rw [(own_in hj hk).2, ← hv]; exact H k hk) hg hs hd target kt
theorem own_len (X : Stand p l e R s m args below meth c T locs cells slots) (hx : p.tables.exec = Jvm.exec) (hZ : Z.Warmed39 s.vm) (eT : T.heap = h) (A : own_Ar Z h a ty n f) {g : JFrame} (hg : g.method = m) {rest : List Value} (hs : g.stack = .ref a :: rest) (hd : decode c.code g.pc = .ok (.arraylength, 1)) (target : State)
    (kt : Steps p.tables e below (T.setTop { g with pc := g.pc + 1, stack := .int n.toInt32 :: rest }) target) : Steps p.tables e below (T.setTop g) target := by
  obtain ⟨_, cl, Ar, q, H⟩ := A
  exact X.arraylength hx (by rw [eT]; exact Ar.1) (State.isArrayOf_alike hZ.alike Ar.2.1) hg hs hd target (by rw [q]; exact kt)
end OwnArr



def own_c (y : Int32) : Int32 := (y &&& (255 : Int32)).toUInt32.toUInt16.toUInt32.toInt32
theorem own_c_eq (y : Int32) : own_c y = y &&& 255 := i2c_mask y
theorem own_c_int (y : Int32) : (own_c y).toInt = y.toInt % 256 := by
  rw [own_c_eq, Jvm.Kit.i32_mask y 255 (k := 8) (by decide) (by decide)]; rfl
theorem own_c_in (y : Int32) : ¬ own_c y < 0 ∧ ¬ (255 : Int32) < own_c y := by
  have h := own_c_int y
  constructor
  · rw [Int32.lt_iff_toInt_lt, h, show (0 : Int32).toInt = 0 from rfl]; omega
  · rw [Int32.lt_iff_toInt_lt, h, show (255 : Int32).toInt = 255 from rfl]; omega
theorem own_c_idem (y : Int32) : (own_c y).toUInt32.toUInt16.toUInt32.toInt32 = own_c y := by
  have e : own_c y = y &&& 255 := own_c_eq y
  rw [e]; exact i2c_mask y
theorem own_c_fits (y : Int32) : fits .char (.int (own_c y)) = true := by rw [← own_c_idem y]; exact fits_nar_char _
theorem own_wide (cs : List Int32) (h : ∀ c ∈ cs, ¬ c < 0 ∧ ¬ (255 : Int32) < c) : ∀ c ∈ cs, ¬ c < 0 ∧ ¬ (65535 : Int32) < c := fun c hc => ⟨(h c hc).1, fun q => (h c hc).2 (by rw [Int32.lt_iff_toInt_lt] at q ⊢; rw [show (65535 : Int32).toInt = 65535 from rfl] at q; rw [show (255 : Int32).toInt = 255 from rfl]; omega)⟩
theorem own_hws : ∀ d ∈ StrChars.Road.words, d ∈ tables_1 := by decide +kernel

theorem own_hch : ∀ d ∈ StrChars.Road.wordsChN, d ∈ tables_1 := by decide +kernel
def own_cs (x : Int32) : List Int32 := [own_c x, own_c (Jvm.Free.XT.ushr x (8 : Int32)), own_c (Jvm.Free.XT.ushr x (16 : Int32)), own_c (Jvm.Free.XT.ushr x (24 : Int32))]
def own_t (x : Int32) (i : Nat) : Int32 := (own_cs x).getD i 0
theorem own_cs_in (x : Int32) : ∀ c ∈ own_cs x, ¬ c < 0 ∧ ¬ (255 : Int32) < c := by
  intro c hc
  simp only [own_cs, List.mem_cons, List.not_mem_nil, or_false] at hc
  rcases hc with rfl | rfl | rfl | rfl <;> exact own_c_in _
theorem own_vt (x : Int32) (i : Nat) (hi : i < 4) : (own_up (own_up (own_up (own_up (fun _ => .int (0 : Int32)) 0 (.int (own_c x).toUInt32.toUInt16.toUInt32.toInt32)) 1 (.int (own_c (Jvm.Free.XT.ushr x (8 : Int32))).toUInt32.toUInt16.toUInt32.toInt32)) 2 (.int (own_c (Jvm.Free.XT.ushr x (16 : Int32))).toUInt32.toUInt16.toUInt32.toInt32)) 3 (.int (own_c (Jvm.Free.XT.ushr x (24 : Int32))).toUInt32.toUInt16.toUInt32.toInt32)) i = (fun i => Value.int (own_t x i)) i := by
  rw [own_c_idem, own_c_idem, own_c_idem, own_c_idem]
  have : i = 0 ∨ i = 1 ∨ i = 2 ∨ i = 3 := by omega
  rcases this with rfl | rfl | rfl | rfl <;> rfl
theorem own_vs (x : Int32) (i : Nat) (hi : i < 4) : (own_up (own_up (own_up (own_up (fun _ => .int (0 : Int32)) 0 (.int (own_c x).toUInt32.toUInt16.toUInt32.toInt32)) 1 (.int (own_c (Jvm.Free.XT.ushr x (8 : Int32))).toUInt32.toUInt16.toUInt32.toInt32)) 2 (.int (own_c (Jvm.Free.XT.ushr x (16 : Int32))).toUInt32.toUInt16.toUInt32.toInt32)) 3 (.int (own_c (Jvm.Free.XT.ushr x (24 : Int32))).toUInt32.toUInt16.toUInt32.toInt32)) i = ((own_cs x).map Value.int).getD i (.int 0) := by
  rw [own_vt x i hi]
  have : i = 0 ∨ i = 1 ∨ i = 2 ∨ i = 3 := by omega
  rcases this with rfl | rfl | rfl | rfl <;> rfl
theorem own_vf (x : Int32) (i : Nat) (hi : i < 4) : fits .char (((own_cs x).map Value.int).getD i (.int 0)) = true := by
  have : i = 0 ∨ i = 1 ∨ i = 2 ∨ i = 3 := by omega
  rcases this with rfl | rfl | rfl | rfl <;> exact own_c_fits _

theorem own_d1_0 : decode prog_31_method_1_code 0 = .ok (.aload_n 0, 1) := by decide +kernel
theorem own_d1_1 : decode prog_31_method_1_code 1 = .ok (.invokespecial 1, 3) := by decide +kernel
theorem own_d1_4 : decode prog_31_method_1_code 4 = .ok (.aload_n 0, 1) := by decide +kernel
theorem own_d1_5 : decode prog_31_method_1_code 5 = .ok (.iload_n 1, 1) := by decide +kernel
theorem own_d1_6 : decode prog_31_method_1_code 6 = .ok (.putfield 7, 3) := by decide +kernel
theorem own_d1_9 : decode prog_31_method_1_code 9 = .ok (.aload_n 0, 1) := by decide +kernel
theorem own_d1_10 : decode prog_31_method_1_code 10 = .ok (.aload_n 2, 1) := by decide +kernel
theorem own_d1_11 : decode prog_31_method_1_code 11 = .ok (.putfield 13, 3) := by decide +kernel
theorem own_d1_14 : decode prog_31_method_1_code 14 = .ok (.aload_n 0, 1) := by decide +kernel
theorem own_d1_15 : decode prog_31_method_1_code 15 = .ok (.iload_n 3, 1) := by decide +kernel
theorem own_d1_16 : decode prog_31_method_1_code 16 = .ok (.putfield 17, 3) := by decide +kernel
theorem own_d1_19 : decode prog_31_method_1_code 19 = .ok (.aload_n 0, 1) := by decide +kernel
theorem own_d1_20 : decode prog_31_method_1_code 20 = .ok (.iload 4, 2) := by decide +kernel
theorem own_d1_22 : decode prog_31_method_1_code 22 = .ok (.putfield 20, 3) := by decide +kernel
theorem own_d1_25 : decode prog_31_method_1_code 25 = .ok (.return_, 1) := by decide +kernel
theorem own_pn_Cursor : plainName "com/example/predicant/predicant/format/Cursor" = true := by first | (simp [plainName, overriddenIn]; done) | decide +kernel
theorem own_ef1 (m : MethodId) (x0 : Addr) (x1 : Int32) (x2 : Addr) (x3 : Int32) (x4 : Int32) : entryFrame m #[(.ref x0), (.int x1), (.ref x2), (.int x3), (.int x4)] 5 = mkF m 0 #[.val (.ref x0), .val (.int x1), .val (.ref x2), .val (.int x3), .val (.int x4)] [] := by first | (simp [entryFrame, mkF, argsToLocals, Value.category, maxLocals]; done) | rfl
theorem own_pd0 : parseMethodDescriptor "()V" = some ⟨[], none⟩ := by decide +kernel
set_option maxRecDepth 65536 in
set_option maxHeartbeats 40000000 in
theorem own_rm_cinit (l : Launch) (Z : State) (a0 : Array Value) (hw : ∀ d ∈ tables_1, d.before a0 Z = true) (r0 : Addr) (p1 : Int32) (a2 : Addr) (p3 : Int32) (p4 : Int32) (h0 : Heap) (n0 : Nat) (Z0 : n0 ≤ h0.size) (E0 : Exa Z h0 r0 "com/example/predicant/predicant/format/Cursor") (F_m_nLine : Fld Z h0 r0 "com/example/predicant/predicant/format/Cursor" "m_nLine" "I" (.int (0 : Int32))) (F_m_sText : Fld Z h0 r0 "com/example/predicant/predicant/format/Cursor" "m_sText" "Ljava/lang/String;" .null) (F_m_nPosition : Fld Z h0 r0 "com/example/predicant/predicant/format/Cursor" "m_nPosition" "I" (.int (0 : Int32))) (F_m_nEnd : Fld Z h0 r0 "com/example/predicant/predicant/format/Cursor" "m_nEnd" "I" (.int (0 : Int32))) (g0 : n0 ≤ r0) : own_Con l Z [] (⟨"com/example/predicant/predicant/format/Cursor", "<init>", "(ILjava/lang/String;II)V"⟩ : MethodName) prog_31_method_1_code 5 none ({ frames := 1, cells := 0, slots := 0, locals := 12 } : Room) #[(.ref r0), (.int p1), (.ref a2), (.int p3), (.int p4)] h0 (fun v h L => v = none ∧ Fr n0 L ∧ Keep h0 h [r0] ∧ Fld Z h r0 "com/example/predicant/predicant/format/Cursor" "m_sText" "Ljava/lang/String;" (.ref a2) ∧ Fld Z h r0 "com/example/predicant/predicant/format/Cursor" "m_nPosition" "I" (.int p3) ∧ Fld Z h r0 "com/example/predicant/predicant/format/Cursor" "m_nEnd" "I" (.int p4)) := by
  refine own_body (plainFor_of_name own_pn_Cursor) ?_
  intro p e s m below meth c s₁ X0 hx hby hml hret hlk hown hnm hZ e0
  have N0 := Fr.nil n0
  have K0 : Keep h0 h0 [r0] := Keep.refl _ _
  refine oS (u' := s₁.setTop (mkF m 0 #[.val (.ref r0), .val (.int p1), .val (.ref a2), .val (.int p3), .val (.int p4)] [])) (fun _ kst => castTop (own_ef1 m r0 p1 a2 p3 p4) kst) ?_
  refine oS (u' := s₁.setTop (mkF m 1 #[.val (.ref r0), .val (.int p1), .val (.ref a2), .val (.int p3), .val (.int p4)] [(.ref r0)])) (fun _ kst => XS.aloadN X0.here hx rfl (hb hby own_d1_0) rfl rfl kst) ?_
  obtain ⟨T1, X1, e1, st1⟩ := initO X0 hx hZ hown (hw _ (List.mem_of_getElem? (i := 37) rfl)) (hw _ (List.mem_of_getElem? (i := 12) rfl)) (hw _ (List.mem_of_getElem? (i := 13) rfl)) e0 (g := (mkF m 1 #[.val (.ref r0), .val (.int p1), .val (.ref a2), .val (.int p3), .val (.int p4)] [(.ref r0)])) rfl (by rw [hml]; rfl) rfl (hb hby own_d1_1) (by decide) (W := 0) (by show 2 * 0 + _ ≤ _; exact Nat.le_of_eq rfl) (by decide)
  refine oS (u' := T1.setTop (mkF m 4 #[.val (.ref r0), .val (.int p1), .val (.ref a2), .val (.int p3), .val (.int p4)] [])) st1 ?_
  refine oS (u' := T1.setTop (mkF m 5 #[.val (.ref r0), .val (.int p1), .val (.ref a2), .val (.int p3), .val (.int p4)] [(.ref r0)])) (fun _ kst => XS.aloadN X1.here hx rfl (hb hby own_d1_4) rfl rfl kst) ?_
  refine oS (u' := T1.setTop (mkF m 6 #[.val (.ref r0), .val (.int p1), .val (.ref a2), .val (.int p3), .val (.int p4)] [(.int p1), (.ref r0)])) (fun _ kst => XS.iloadN X1.here hx rfl (hb hby own_d1_5) rfl kst) ?_
  obtain ⟨T2, h2, X2, e2, W2, st2⟩ := putF X1 hx hZ hown (host := "") (Or.inl (hw _ (List.mem_of_getElem? (i := 38) rfl))) Via.refl e1 F_m_nLine E0 (Or.inr ⟨(hw _ (List.mem_of_getElem? (i := 39) rfl)), rfl, hnm⟩) (hw _ (List.mem_of_getElem? (i := 32) rfl)) (ty := .int) (by decide) rfl rfl (g := (mkF m 6 #[.val (.ref r0), .val (.int p1), .val (.ref a2), .val (.int p3), .val (.int p4)] [(.int p1), (.ref r0)])) rfl rfl (hb hby own_d1_6)
  have f2_E_r0 := E0.wr W2
  have f2_F_r0_m_nLine := F_m_nLine.same W2
  have f2_F_r0_m_sText := F_m_sText.other W2 (Or.inr (slot_ne (Or.inr (hw _ (List.mem_of_getElem? (i := 41) rfl))) (Or.inr (hw _ (List.mem_of_getElem? (i := 39) rfl))) (by decide) (t := (.object "java/lang/String")) (t' := .int) (by decide) (by decide)))
  have f2_F_r0_m_nPosition := F_m_nPosition.other W2 (Or.inr (slot_ne (Or.inl (hw _ (List.mem_of_getElem? (i := 43) rfl))) (Or.inr (hw _ (List.mem_of_getElem? (i := 39) rfl))) (by decide) (t := .int) (t' := .int) (by decide) (by decide)))
  have f2_F_r0_m_nEnd := F_m_nEnd.other W2 (Or.inr (slot_ne (Or.inr (hw _ (List.mem_of_getElem? (i := 45) rfl))) (Or.inr (hw _ (List.mem_of_getElem? (i := 39) rfl))) (by decide) (t := .int) (t' := .int) (by decide) (by decide)))
  have K2 := K0.wr W2 (Or.inl (List.mem_of_getElem? (i := 0) rfl))
  have Z2 := Nat.le_trans Z0 (Keep.of_wr W2).1
  have N2 := Fr.snoc X2 N0 g0
  refine oS (u' := T2.setTop (mkF m 9 #[.val (.ref r0), .val (.int p1), .val (.ref a2), .val (.int p3), .val (.int p4)] [])) st2 ?_
  refine oS (u' := T2.setTop (mkF m 10 #[.val (.ref r0), .val (.int p1), .val (.ref a2), .val (.int p3), .val (.int p4)] [(.ref r0)])) (fun _ kst => XS.aloadN X2.here hx rfl (hb hby own_d1_9) rfl rfl kst) ?_
  refine oS (u' := T2.setTop (mkF m 11 #[.val (.ref r0), .val (.int p1), .val (.ref a2), .val (.int p3), .val (.int p4)] [(.ref a2), (.ref r0)])) (fun _ kst => XS.aloadN X2.here hx rfl (hb hby own_d1_10) rfl rfl kst) ?_
  obtain ⟨T3, h3, X3, e3, W3, st3⟩ := putF X2 hx hZ hown (host := "") (Or.inl (hw _ (List.mem_of_getElem? (i := 40) rfl))) Via.refl e2 f2_F_r0_m_sText f2_E_r0 (Or.inr ⟨(hw _ (List.mem_of_getElem? (i := 41) rfl)), rfl, hnm⟩) (hw _ (List.mem_of_getElem? (i := 32) rfl)) (ty := (.object "java/lang/String")) (by decide) rfl rfl (g := (mkF m 11 #[.val (.ref r0), .val (.int p1), .val (.ref a2), .val (.int p3), .val (.int p4)] [(.ref a2), (.ref r0)])) rfl rfl (hb hby own_d1_11)
  have f3_E_r0 := f2_E_r0.wr W3
  have f3_F_r0_m_nLine := f2_F_r0_m_nLine.other W3 (Or.inr (slot_ne (Or.inr (hw _ (List.mem_of_getElem? (i := 39) rfl))) (Or.inr (hw _ (List.mem_of_getElem? (i := 41) rfl))) (by decide) (t := .int) (t' := (.object "java/lang/String")) (by decide) (by decide)))
  have f3_F_r0_m_sText := f2_F_r0_m_sText.same W3
  have f3_F_r0_m_nPosition := f2_F_r0_m_nPosition.other W3 (Or.inr (slot_ne (Or.inl (hw _ (List.mem_of_getElem? (i := 43) rfl))) (Or.inr (hw _ (List.mem_of_getElem? (i := 41) rfl))) (by decide) (t := .int) (t' := (.object "java/lang/String")) (by decide) (by decide)))
  have f3_F_r0_m_nEnd := f2_F_r0_m_nEnd.other W3 (Or.inr (slot_ne (Or.inr (hw _ (List.mem_of_getElem? (i := 45) rfl))) (Or.inr (hw _ (List.mem_of_getElem? (i := 41) rfl))) (by decide) (t := .int) (t' := (.object "java/lang/String")) (by decide) (by decide)))
  have K3 := K2.wr W3 (Or.inl (List.mem_of_getElem? (i := 0) rfl))
  have Z3 := Nat.le_trans Z2 (Keep.of_wr W3).1
  have N3 := Fr.snoc X3 N2 g0
  refine oS (u' := T3.setTop (mkF m 14 #[.val (.ref r0), .val (.int p1), .val (.ref a2), .val (.int p3), .val (.int p4)] [])) st3 ?_
  refine oS (u' := T3.setTop (mkF m 15 #[.val (.ref r0), .val (.int p1), .val (.ref a2), .val (.int p3), .val (.int p4)] [(.ref r0)])) (fun _ kst => XS.aloadN X3.here hx rfl (hb hby own_d1_14) rfl rfl kst) ?_
  refine oS (u' := T3.setTop (mkF m 16 #[.val (.ref r0), .val (.int p1), .val (.ref a2), .val (.int p3), .val (.int p4)] [(.int p3), (.ref r0)])) (fun _ kst => XS.iloadN X3.here hx rfl (hb hby own_d1_15) rfl kst) ?_
  obtain ⟨T4, h4, X4, e4, W4, st4⟩ := putF X3 hx hZ hown (host := "") (Or.inl (hw _ (List.mem_of_getElem? (i := 42) rfl))) Via.refl e3 f3_F_r0_m_nPosition f3_E_r0 (Or.inl (hw _ (List.mem_of_getElem? (i := 43) rfl))) (hw _ (List.mem_of_getElem? (i := 32) rfl)) (ty := .int) (by decide) rfl rfl (g := (mkF m 16 #[.val (.ref r0), .val (.int p1), .val (.ref a2), .val (.int p3), .val (.int p4)] [(.int p3), (.ref r0)])) rfl rfl (hb hby own_d1_16)
  have f4_E_r0 := f3_E_r0.wr W4
  have f4_F_r0_m_nLine := f3_F_r0_m_nLine.other W4 (Or.inr (slot_ne (Or.inr (hw _ (List.mem_of_getElem? (i := 39) rfl))) (Or.inl (hw _ (List.mem_of_getElem? (i := 43) rfl))) (by decide) (t := .int) (t' := .int) (by decide) (by decide)))
  have f4_F_r0_m_sText := f3_F_r0_m_sText.other W4 (Or.inr (slot_ne (Or.inr (hw _ (List.mem_of_getElem? (i := 41) rfl))) (Or.inl (hw _ (List.mem_of_getElem? (i := 43) rfl))) (by decide) (t := (.object "java/lang/String")) (t' := .int) (by decide) (by decide)))
  have f4_F_r0_m_nPosition := f3_F_r0_m_nPosition.same W4
  have f4_F_r0_m_nEnd := f3_F_r0_m_nEnd.other W4 (Or.inr (slot_ne (Or.inr (hw _ (List.mem_of_getElem? (i := 45) rfl))) (Or.inl (hw _ (List.mem_of_getElem? (i := 43) rfl))) (by decide) (t := .int) (t' := .int) (by decide) (by decide)))
  have K4 := K3.wr W4 (Or.inl (List.mem_of_getElem? (i := 0) rfl))
  have Z4 := Nat.le_trans Z3 (Keep.of_wr W4).1
  have N4 := Fr.snoc X4 N3 g0
  refine oS (u' := T4.setTop (mkF m 19 #[.val (.ref r0), .val (.int p1), .val (.ref a2), .val (.int p3), .val (.int p4)] [])) st4 ?_
  refine oS (u' := T4.setTop (mkF m 20 #[.val (.ref r0), .val (.int p1), .val (.ref a2), .val (.int p3), .val (.int p4)] [(.ref r0)])) (fun _ kst => XS.aloadN X4.here hx rfl (hb hby own_d1_19) rfl rfl kst) ?_
  refine oS (u' := T4.setTop (mkF m 22 #[.val (.ref r0), .val (.int p1), .val (.ref a2), .val (.int p3), .val (.int p4)] [(.int p4), (.ref r0)])) (fun _ kst => XS.iload X4.here hx rfl (hb hby own_d1_20) rfl kst) ?_
  obtain ⟨T5, h5, X5, e5, W5, st5⟩ := putF X4 hx hZ hown (host := "") (Or.inl (hw _ (List.mem_of_getElem? (i := 44) rfl))) Via.refl e4 f4_F_r0_m_nEnd f4_E_r0 (Or.inr ⟨(hw _ (List.mem_of_getElem? (i := 45) rfl)), rfl, hnm⟩) (hw _ (List.mem_of_getElem? (i := 32) rfl)) (ty := .int) (by decide) rfl rfl (g := (mkF m 22 #[.val (.ref r0), .val (.int p1), .val (.ref a2), .val (.int p3), .val (.int p4)] [(.int p4), (.ref r0)])) rfl rfl (hb hby own_d1_22)
  have f5_E_r0 := f4_E_r0.wr W5
  have f5_F_r0_m_nLine := f4_F_r0_m_nLine.other W5 (Or.inr (slot_ne (Or.inr (hw _ (List.mem_of_getElem? (i := 39) rfl))) (Or.inr (hw _ (List.mem_of_getElem? (i := 45) rfl))) (by decide) (t := .int) (t' := .int) (by decide) (by decide)))
  have f5_F_r0_m_sText := f4_F_r0_m_sText.other W5 (Or.inr (slot_ne (Or.inr (hw _ (List.mem_of_getElem? (i := 41) rfl))) (Or.inr (hw _ (List.mem_of_getElem? (i := 45) rfl))) (by decide) (t := (.object "java/lang/String")) (t' := .int) (by decide) (by decide)))
  have f5_F_r0_m_nPosition := f4_F_r0_m_nPosition.other W5 (Or.inr (slot_ne (Or.inl (hw _ (List.mem_of_getElem? (i := 43) rfl))) (Or.inr (hw _ (List.mem_of_getElem? (i := 45) rfl))) (by decide) (t := .int) (t' := .int) (by decide) (by decide)))
  have f5_F_r0_m_nEnd := f4_F_r0_m_nEnd.same W5
  have K5 := K4.wr W5 (Or.inl (List.mem_of_getElem? (i := 0) rfl))
  have Z5 := Nat.le_trans Z4 (Keep.of_wr W5).1
  have N5 := Fr.snoc X5 N4 g0
  refine oS (u' := T5.setTop (mkF m 25 #[.val (.ref r0), .val (.int p1), .val (.ref a2), .val (.int p3), .val (.int p4)] [])) st5 ?_
  refine own_ret0 X5 hx hlk hret (hb hby own_d1_25) ?_ (by decide) (by decide)
  show _ ∧ _
  rw [e5]
  exact ⟨rfl, N5, K5, f5_F_r0_m_sText, f5_F_r0_m_nPosition, f5_F_r0_m_nEnd⟩
theorem own_d2_0 : decode prog_31_method_2_code 0 = .ok (.aload_n 0, 1) := by decide +kernel
theorem own_d2_1 : decode prog_31_method_2_code 1 = .ok (.getfield 17, 3) := by decide +kernel
theorem own_d2_4 : decode prog_31_method_2_code 4 = .ok (.aload_n 0, 1) := by decide +kernel
theorem own_d2_5 : decode prog_31_method_2_code 5 = .ok (.getfield 20, 3) := by decide +kernel
theorem own_d2_8 : decode prog_31_method_2_code 8 = .ok (.if_icmp .ne 7, 3) := by decide +kernel
theorem own_d2_11 : decode prog_31_method_2_code 11 = .ok (.iconst 1, 1) := by decide +kernel
theorem own_d2_12 : decode prog_31_method_2_code 12 = .ok (.goto 4, 3) := by decide +kernel
theorem own_d2_15 : decode prog_31_method_2_code 15 = .ok (.iconst 0, 1) := by decide +kernel
theorem own_d2_16 : decode prog_31_method_2_code 16 = .ok (.ireturn, 1) := by decide +kernel
theorem own_ef2 (m : MethodId) (x0 : Addr) : entryFrame m #[(.ref x0)] 1 = mkF m 0 #[.val (.ref x0)] [] := by first | (simp [entryFrame, mkF, argsToLocals, Value.category, maxLocals]; done) | rfl
def own_ae (r0 : Addr) (ps : Int32) (pe : Int32) : Int32 := (if ps = pe then ((1 : Int32) &&& 1) else ((0 : Int32) &&& 1))
set_option maxRecDepth 65536 in
set_option maxHeartbeats 40000000 in
theorem own_rm_ae (l : Launch) (Z : State) (a0 : Array Value) (hw : ∀ d ∈ tables_1, d.before a0 Z = true) (r0 : Addr) (ps : Int32) (pe : Int32) (h0 : Heap) (Fp : Fld Z h0 r0 "com/example/predicant/predicant/format/Cursor" "m_nPosition" "I" (.int ps)) (Fe : Fld Z h0 r0 "com/example/predicant/predicant/format/Cursor" "m_nEnd" "I" (.int pe)) : own_Con l Z [] (⟨"com/example/predicant/predicant/format/Cursor", "atEnd", "()Z"⟩ : MethodName) prog_31_method_2_code 1 (some .boolean) ({ frames := 0, cells := 0, slots := 0, locals := 0 } : Room) #[(.ref r0)] h0 (own_Q1 (some (.int (own_ae r0 ps pe))) h0) := by
  refine own_body (plainFor_of_name own_pn_Cursor) ?_
  intro p e s m below meth c s₁ X0 hx hby hml hret hlk hown hnm hZ e0
  refine oS (u' := s₁.setTop (mkF m 0 #[.val (.ref r0)] [])) (fun _ kst => castTop (own_ef2 m r0) kst) ?_
  refine oS (u' := s₁.setTop (mkF m 1 #[.val (.ref r0)] [(.ref r0)])) (fun _ kst => XS.aloadN X0.here hx rfl (hb hby own_d2_0) rfl rfl kst) ?_
  obtain ⟨T6, X6, e6, st6⟩ := getF X0 hx hZ hown (host := "") (Or.inl (hw _ (List.mem_of_getElem? (i := 42) rfl))) Via.refl e0 Fp (g := (mkF m 1 #[.val (.ref r0)] [(.ref r0)])) rfl rfl (hb hby own_d2_1)
  refine oS (u' := T6.setTop (mkF m 4 #[.val (.ref r0)] [(.int ps)])) st6 ?_
  refine oS (u' := T6.setTop (mkF m 5 #[.val (.ref r0)] [(.ref r0), (.int ps)])) (fun _ kst => XS.aloadN X6.here hx rfl (hb hby own_d2_4) rfl rfl kst) ?_
  obtain ⟨T7, X7, e7, st7⟩ := getF X6 hx hZ hown (host := "") (Or.inl (hw _ (List.mem_of_getElem? (i := 44) rfl))) Via.refl e6 Fe (g := (mkF m 5 #[.val (.ref r0)] [(.ref r0), (.int ps)])) rfl rfl (hb hby own_d2_5)
  refine oS (u' := T7.setTop (mkF m 8 #[.val (.ref r0)] [(.int pe), (.int ps)])) st7 ?_
  by_cases hc8 : ps = pe
  · refine oS (u' := T7.setTop (mkF m 11 #[.val (.ref r0)] [])) (fun _ kst => XS.icmpNo X7.here hx rfl (hb hby own_d2_8) rfl (teq hc8).2 kst) ?_
    refine oS (u' := T7.setTop (mkF m 12 #[.val (.ref r0)] [(.int (1 : Int32))])) (fun _ kst => XS.iconst X7.here hx rfl (hb hby own_d2_11) kst) ?_
    refine oS (u' := T7.setTop (mkF m 16 #[.val (.ref r0)] [(.int (1 : Int32))])) (fun _ kst => XS.goto X7.here hx rfl (pc0 := 12) (pc' := 16) rfl (hb hby own_d2_12) (by decide) (by decide) kst) ?_
    refine own_retN X7 hx hlk (t := .boolean) hret (by simp) (hb hby own_d2_16) ?_ (by decide) (by decide)
    exact ⟨(by show (some (.int ((1 : Int32) &&& 1)) : Option Value) = _; unfold own_ae; rw [if_pos hc8]), e7, rfl⟩
  · refine oS (u' := T7.setTop (mkF m 15 #[.val (.ref r0)] [])) (fun _ kst => XS.icmpYes X7.here hx rfl (pc0 := 8) (pc' := 15) rfl (hb hby own_d2_8) rfl (feq hc8).2 (by decide) (by decide) kst) ?_
    refine oS (u' := T7.setTop (mkF m 16 #[.val (.ref r0)] [(.int (0 : Int32))])) (fun _ kst => XS.iconst X7.here hx rfl (hb hby own_d2_15) kst) ?_
    refine own_retN X7 hx hlk (t := .boolean) hret (by simp) (hb hby own_d2_16) ?_ (by decide) (by decide)
    exact ⟨(by show (some (.int ((0 : Int32) &&& 1)) : Option Value) = _; unfold own_ae; rw [if_neg hc8]), e7, rfl⟩
def own_ia (r0 : Addr) (ps pe ch c : Int32) : Int32 := if own_ae r0 ps pe = (0 : Int32) then (if ch = c then (1 : Int32) else (0 : Int32)) else (0 : Int32)
theorem own_ia_one {r0 : Addr} {ps pe ch c : Int32} (h : ¬ own_ia r0 ps pe ch c = (0 : Int32)) : own_ia r0 ps pe ch c = 1 := by
  unfold own_ia at h ⊢
  by_cases h1 : own_ae r0 ps pe = (0 : Int32)
  · rw [if_pos h1] at h ⊢
    by_cases h2 : ch = c
    · rw [if_pos h2]
    · rw [if_neg h2] at h; exact absurd rfl h
  · rw [if_neg h1] at h; exact absurd rfl h
theorem own_lt4 {q : Int32} {r0 : Addr} {ps pe : Int32} {i j : Nat} (hi : ps = Int32.ofNat i) (hj : pe = Int32.ofNat j) (hij : i ≤ j ∧ j ≤ 4) (h : own_ae r0 ps pe = (0 : Int32)) : i < (own_cs q).length := by
  show i < 4
  have : ¬ i = j := by
    intro e
    unfold own_ae at h
    rw [if_pos (by rw [hi, hj, e])] at h
    exact absurd h (by decide)
  omega
theorem own_d3_0 : decode prog_31_method_3_code 0 = .ok (.aload_n 0, 1) := by decide +kernel
theorem own_d3_1 : decode prog_31_method_3_code 1 = .ok (.getfield 17, 3) := by decide +kernel
theorem own_d3_4 : decode prog_31_method_3_code 4 = .ok (.ireturn, 1) := by decide +kernel
theorem own_ef3 (m : MethodId) (x0 : Addr) : entryFrame m #[(.ref x0)] 1 = mkF m 0 #[.val (.ref x0)] [] := by first | (simp [entryFrame, mkF, argsToLocals, Value.category, maxLocals]; done) | rfl
set_option maxRecDepth 65536 in
set_option maxHeartbeats 40000000 in
theorem own_rm_pos (l : Launch) (Z : State) (a0 : Array Value) (hw : ∀ d ∈ tables_1, d.before a0 Z = true) (r0 : Addr) (fv : Int32) (h0 : Heap) (F1 : Fld Z h0 r0 "com/example/predicant/predicant/format/Cursor" "m_nPosition" "I" (.int fv)) : own_Con l Z [] (⟨"com/example/predicant/predicant/format/Cursor", "position", "()I"⟩ : MethodName) prog_31_method_3_code 1 (some .int) ({ frames := 0, cells := 0, slots := 0, locals := 0 } : Room) #[(.ref r0)] h0 (own_Q1 (some (.int fv)) h0) := by
  refine own_body (plainFor_of_name own_pn_Cursor) ?_
  intro p e s m below meth c s₁ X0 hx hby hml hret hlk hown hnm hZ e0
  refine oS (u' := s₁.setTop (mkF m 0 #[.val (.ref r0)] [])) (fun _ kst => castTop (own_ef3 m r0) kst) ?_
  refine oS (u' := s₁.setTop (mkF m 1 #[.val (.ref r0)] [(.ref r0)])) (fun _ kst => XS.aloadN X0.here hx rfl (hb hby own_d3_0) rfl rfl kst) ?_
  obtain ⟨T9, X9, e9, st9⟩ := getF X0 hx hZ hown (host := "") (Or.inl (hw _ (List.mem_of_getElem? (i := 42) rfl))) Via.refl e0 F1 (g := (mkF m 1 #[.val (.ref r0)] [(.ref r0)])) rfl rfl (hb hby own_d3_1)
  refine oS (u' := T9.setTop (mkF m 4 #[.val (.ref r0)] [(.int fv)])) st9 ?_
  refine own_retI X9 hx hlk hret (hb hby own_d3_4) ?_ (by decide) (by decide)
  exact ⟨rfl, e9, rfl⟩
theorem own_d4_0 : decode prog_31_method_6_code 0 = .ok (.aload_n 0, 1) := by decide +kernel
theorem own_d4_1 : decode prog_31_method_6_code 1 = .ok (.invokevirtual 29, 3) := by decide +kernel
theorem own_d4_4 : decode prog_31_method_6_code 4 = .ok (.ifCond .ne 22, 3) := by decide +kernel
theorem own_d4_7 : decode prog_31_method_6_code 7 = .ok (.aload_n 0, 1) := by decide +kernel
theorem own_d4_8 : decode prog_31_method_6_code 8 = .ok (.getfield 13, 3) := by decide +kernel
theorem own_d4_11 : decode prog_31_method_6_code 11 = .ok (.aload_n 0, 1) := by decide +kernel
theorem own_d4_12 : decode prog_31_method_6_code 12 = .ok (.getfield 17, 3) := by decide +kernel
theorem own_d4_15 : decode prog_31_method_6_code 15 = .ok (.invokevirtual 33, 3) := by decide +kernel
theorem own_d4_18 : decode prog_31_method_6_code 18 = .ok (.iload_n 1, 1) := by decide +kernel
theorem own_d4_19 : decode prog_31_method_6_code 19 = .ok (.if_icmp .ne 7, 3) := by decide +kernel
theorem own_d4_22 : decode prog_31_method_6_code 22 = .ok (.iconst 1, 1) := by decide +kernel
theorem own_d4_23 : decode prog_31_method_6_code 23 = .ok (.goto 4, 3) := by decide +kernel
theorem own_d4_26 : decode prog_31_method_6_code 26 = .ok (.iconst 0, 1) := by decide +kernel
theorem own_d4_27 : decode prog_31_method_6_code 27 = .ok (.ireturn, 1) := by decide +kernel
theorem own_ef4 (m : MethodId) (x0 : Addr) (x1 : Int32) : entryFrame m #[(.ref x0), (.int x1)] 2 = mkF m 0 #[.val (.ref x0), .val (.int x1)] [] := by first | (simp [entryFrame, mkF, argsToLocals, Value.category, maxLocals]; done) | rfl
theorem own_pd1 : parseMethodDescriptor "()Z" = some ⟨[], some .boolean⟩ := by decide +kernel
theorem own_pd2 : parseMethodDescriptor "(I)C" = some ⟨[.int], some .char⟩ := by decide +kernel
set_option maxRecDepth 65536 in
set_option maxHeartbeats 40000000 in
theorem own_rm_isat (l : Launch) (Z : State) (a0 : Array Value) (hw : ∀ d ∈ tables_1, d.before a0 Z = true) (r0 : Addr) (p1 : Int32) (sx : Addr) (tx : Addr) (kb : ClassId) (ps : Int32) (pe : Int32) (q : Int32) (i : Nat) (j : Nat) (G1 : Int32) (G3 : Value) (h0 : Heap) (E0 : Exa Z h0 r0 "com/example/predicant/predicant/format/Cursor") (Ft : Fld Z h0 r0 "com/example/predicant/predicant/format/Cursor" "m_sText" "Ljava/lang/String;" (.ref sx)) (Fp : Fld Z h0 r0 "com/example/predicant/predicant/format/Cursor" "m_nPosition" "I" (.int ps)) (Fe : Fld Z h0 r0 "com/example/predicant/predicant/format/Cursor" "m_nEnd" "I" (.int pe)) (Es : Exa Z h0 sx "java/lang/String") (Vs : Fld Z h0 sx "java/lang/String" "value" "[B" (.ref tx)) (Cs : Fld Z h0 sx "java/lang/String" "coder" "B" (.int (0 : Int32))) (Ks : Arv Z h0 tx kb .byte (4 : Int32) (((own_cs q).map (fun c => c.toInt8.toInt32)).map Value.int) (.int 0)) (hi : ps = Int32.ofNat i) (hj : pe = Int32.ofNat j) (hij : i ≤ j ∧ j ≤ 4) (O2 : Sta Z h0 "java/lang/String" "COMPACT_STRINGS" "Z" (.int G1)) (P5 : ¬ G1 = (0 : Int32)) (O4 : Sta Z h0 "jdk/internal/util/Preconditions" "SIOOBE_FORMATTER" "Ljava/util/function/BiFunction;" G3) (rG3 : G3.isRef = true) : own_Con l Z [] (⟨"com/example/predicant/predicant/format/Cursor", "isAt", "(C)Z"⟩ : MethodName) prog_31_method_6_code 2 (some .boolean) ({ frames := 4, cells := 0, slots := 0, locals := 53 } : Room) #[(.ref r0), (.int p1)] h0 (own_Q1 (some (.int (own_ia r0 ps pe (own_t q i) p1))) h0) := by
  refine own_body (plainFor_of_name own_pn_Cursor) ?_
  intro p e s m below meth c s₁ X0 hx hby hml hret hlk hown hnm hZ e0
  have K0 : Keep h0 h0 [] := Keep.refl _ _
  refine oS (u' := s₁.setTop (mkF m 0 #[.val (.ref r0), .val (.int p1)] [])) (fun _ kst => castTop (own_ef4 m r0 p1) kst) ?_
  refine oS (u' := s₁.setTop (mkF m 1 #[.val (.ref r0), .val (.int p1)] [(.ref r0)])) (fun _ kst => XS.aloadN X0.here hx rfl (hb hby own_d4_0) rfl rfl kst) ?_
  obtain ⟨T10, X10, e10, st10⟩ := own_callVP X0 hx hZ (y := (⟨"com/example/predicant/predicant/format/Cursor", "atEnd", "()Z"⟩ : MethodName)) (z := (⟨"com/example/predicant/predicant/format/Cursor", "atEnd", "()Z"⟩ : MethodName)) hown (hw _ (List.mem_of_getElem? (i := 61) rfl)) (hw _ (List.mem_of_getElem? (i := 47) rfl)) (notFace_of_selects (args := #[]) (mvT hZ (hw _ (List.mem_of_getElem? (i := 49) rfl)))) (hw _ (List.mem_of_getElem? (i := 49) rfl)) (hw _ (List.mem_of_getElem? (i := 48) rfl)) (by decide) e0 E0 (W := 0) (own_rm_ae l Z a0 hw r0 ps pe h0 Fp Fe) (hw _ (List.mem_of_getElem? (i := 50) rfl)) (hw _ (List.mem_of_getElem? (i := 33) rfl)) (by decide) (by decide) (g := (mkF m 1 #[.val (.ref r0), .val (.int p1)] [(.ref r0)])) rfl (by rw [hml]; rfl) (b := r0) (argsL := []) (rest := []) (lenOf own_pd1 rfl) rfl (by show 2 * 0 + _ ≤ _; exact Nat.le_of_eq rfl) (hb hby own_d4_1) (by decide) (by decide)
  refine oS (u' := T10.setTop (mkF m 4 #[.val (.ref r0), .val (.int p1)] [(.int (own_ae r0 ps pe))])) st10 ?_
  by_cases hc11 : (own_ae r0 ps pe) = (0 : Int32)
  · refine oS (u' := T10.setTop (mkF m 7 #[.val (.ref r0), .val (.int p1)] [])) (fun _ kst => XS.ifNo X10.here hx rfl (hb hby own_d4_4) rfl ((if0 _ _).trans (teq hc11).2) kst) ?_
    refine oS (u' := T10.setTop (mkF m 8 #[.val (.ref r0), .val (.int p1)] [(.ref r0)])) (fun _ kst => XS.aloadN X10.here hx rfl (hb hby own_d4_7) rfl rfl kst) ?_
    obtain ⟨T12, X12, e12, st12⟩ := getF X10 hx hZ hown (host := "") (Or.inl (hw _ (List.mem_of_getElem? (i := 40) rfl))) Via.refl e10 Ft (g := (mkF m 8 #[.val (.ref r0), .val (.int p1)] [(.ref r0)])) rfl rfl (hb hby own_d4_8)
    refine oS (u' := T12.setTop (mkF m 11 #[.val (.ref r0), .val (.int p1)] [(.ref sx)])) st12 ?_
    refine oS (u' := T12.setTop (mkF m 12 #[.val (.ref r0), .val (.int p1)] [(.ref r0), (.ref sx)])) (fun _ kst => XS.aloadN X12.here hx rfl (hb hby own_d4_11) rfl rfl kst) ?_
    obtain ⟨T13, X13, e13, st13⟩ := getF X12 hx hZ hown (host := "") (Or.inl (hw _ (List.mem_of_getElem? (i := 42) rfl))) Via.refl e12 Fp (g := (mkF m 12 #[.val (.ref r0), .val (.int p1)] [(.ref r0), (.ref sx)])) rfl rfl (hb hby own_d4_12)
    refine oS (u' := T13.setTop (mkF m 15 #[.val (.ref r0), .val (.int p1)] [(.int ps), (.ref sx)])) st13 ?_
    obtain ⟨v14, T14, L14, X14, hQ14, st14⟩ := own_callVB (Q := fun v h' L => v = some (.int ((own_cs q).getD i 0)) ∧ L = [] ∧ h' = h0) (kc := 0) (ks := 0) X13 hx hZ (y := (⟨"java/lang/String", "charAt", "(I)C"⟩ : MethodName)) (z := (⟨"java/lang/String", "charAt", "(I)C"⟩ : MethodName)) hown (hw _ (List.mem_of_getElem? (i := 67) rfl)) (hw _ (List.mem_of_getElem? (i := 68) rfl)) (notFace_of_selects (args := #[]) (mvT hZ (hw _ (List.mem_of_getElem? (i := 70) rfl)))) (hw _ (List.mem_of_getElem? (i := 70) rfl)) (hw _ (List.mem_of_getElem? (i := 69) rfl)) (by decide) e13 Es (W := 0) (argsL := [(.int ps)]) (StrChars.Road.chN (W := 0) hZ (fun d hd => hw d (own_hch d hd)) (kI := 4) (hw _ (List.mem_of_getElem? (i := 2) rfl)) Es Vs Cs Ks (StrChars.Road.codOf (n := 4) rfl (fun c hc => ((own_cs_in q) c hc).2)) (own_wide (own_cs q) (own_cs_in q)) (O2.ext (own_kext K0)) P5 (O4.ext (own_kext K0)) rG3 (Nat.le_of_ble_eq_true rfl) (i := i) (own_lt4 hi hj hij hc11) (j := ps) hi (by decide) (by decide)) (g := (mkF m 15 #[.val (.ref r0), .val (.int p1)] [(.int ps), (.ref sx)])) rfl (by rw [hml]; rfl) (rest := []) (lenOf own_pd2 rfl) rfl (by show 2 * 0 + _ ≤ _; exact Nat.le_of_eq rfl) (hb hby own_d4_15) (by decide) (by decide)
    obtain ⟨rfl, rfl, hh14⟩ := hQ14
    rw [List.append_nil] at X14
    refine oS (u' := T14.setTop (mkF m 18 #[.val (.ref r0), .val (.int p1)] [(.int (own_t q i))])) st14 ?_
    refine oS (u' := T14.setTop (mkF m 19 #[.val (.ref r0), .val (.int p1)] [(.int p1), (.int (own_t q i))])) (fun _ kst => XS.iloadN X14.here hx rfl (hb hby own_d4_18) rfl kst) ?_
    by_cases hc15 : (own_t q i) = p1
    · refine oS (u' := T14.setTop (mkF m 22 #[.val (.ref r0), .val (.int p1)] [])) (fun _ kst => XS.icmpNo X14.here hx rfl (hb hby own_d4_19) rfl (teq hc15).2 kst) ?_
      refine oS (u' := T14.setTop (mkF m 23 #[.val (.ref r0), .val (.int p1)] [(.int (1 : Int32))])) (fun _ kst => XS.iconst X14.here hx rfl (hb hby own_d4_22) kst) ?_
      refine oS (u' := T14.setTop (mkF m 27 #[.val (.ref r0), .val (.int p1)] [(.int (1 : Int32))])) (fun _ kst => XS.goto X14.here hx rfl (pc0 := 23) (pc' := 27) rfl (hb hby own_d4_23) (by decide) (by decide) kst) ?_
      refine own_retN X14 hx hlk (t := .boolean) hret (by simp) (hb hby own_d4_27) ?_ (by decide) (by decide)
      exact ⟨(by show (some (.int (1 : Int32)) : Option Value) = _; unfold own_ia; rw [if_pos hc11, if_pos hc15]), hh14, rfl⟩
    · refine oS (u' := T14.setTop (mkF m 26 #[.val (.ref r0), .val (.int p1)] [])) (fun _ kst => XS.icmpYes X14.here hx rfl (pc0 := 19) (pc' := 26) rfl (hb hby own_d4_19) rfl (feq hc15).2 (by decide) (by decide) kst) ?_
      refine oS (u' := T14.setTop (mkF m 27 #[.val (.ref r0), .val (.int p1)] [(.int (0 : Int32))])) (fun _ kst => XS.iconst X14.here hx rfl (hb hby own_d4_26) kst) ?_
      refine own_retN X14 hx hlk (t := .boolean) hret (by simp) (hb hby own_d4_27) ?_ (by decide) (by decide)
      exact ⟨(by show (some (.int (0 : Int32)) : Option Value) = _; unfold own_ia; rw [if_pos hc11, if_neg hc15]), hh14, rfl⟩
  · refine oS (u' := T10.setTop (mkF m 26 #[.val (.ref r0), .val (.int p1)] [])) (fun _ kst => XS.ifYes X10.here hx rfl (pc0 := 4) (pc' := 26) rfl (hb hby own_d4_4) rfl ((if0 _ _).trans (feq hc11).2) (by decide) (by decide) kst) ?_
    refine oS (u' := T10.setTop (mkF m 27 #[.val (.ref r0), .val (.int p1)] [(.int (0 : Int32))])) (fun _ kst => XS.iconst X10.here hx rfl (hb hby own_d4_26) kst) ?_
    refine own_retN X10 hx hlk (t := .boolean) hret (by simp) (hb hby own_d4_27) ?_ (by decide) (by decide)
    exact ⟨(by show (some (.int (0 : Int32)) : Option Value) = _; unfold own_ia; rw [if_neg hc11]), e10, rfl⟩
theorem own_d5_0 : decode prog_31_method_7_code 0 = .ok (.aload_n 0, 1) := by decide +kernel
theorem own_d5_1 : decode prog_31_method_7_code 1 = .ok (.iload_n 1, 1) := by decide +kernel
theorem own_d5_2 : decode prog_31_method_7_code 2 = .ok (.invokevirtual 37, 3) := by decide +kernel
theorem own_d5_5 : decode prog_31_method_7_code 5 = .ok (.ifCond .ne 5, 3) := by decide +kernel
theorem own_d5_8 : decode prog_31_method_7_code 8 = .ok (.iconst 0, 1) := by decide +kernel
theorem own_d5_9 : decode prog_31_method_7_code 9 = .ok (.ireturn, 1) := by decide +kernel
theorem own_d5_10 : decode prog_31_method_7_code 10 = .ok (.aload_n 0, 1) := by decide +kernel
theorem own_d5_11 : decode prog_31_method_7_code 11 = .ok (.dup, 1) := by decide +kernel
theorem own_d5_12 : decode prog_31_method_7_code 12 = .ok (.getfield 17, 3) := by decide +kernel
theorem own_d5_15 : decode prog_31_method_7_code 15 = .ok (.iconst 1, 1) := by decide +kernel
theorem own_d5_16 : decode prog_31_method_7_code 16 = .ok (.iadd, 1) := by decide +kernel
theorem own_d5_17 : decode prog_31_method_7_code 17 = .ok (.putfield 17, 3) := by decide +kernel
theorem own_d5_20 : decode prog_31_method_7_code 20 = .ok (.iconst 1, 1) := by decide +kernel
theorem own_d5_21 : decode prog_31_method_7_code 21 = .ok (.ireturn, 1) := by decide +kernel
theorem own_ef5 (m : MethodId) (x0 : Addr) (x1 : Int32) : entryFrame m #[(.ref x0), (.int x1)] 2 = mkF m 0 #[.val (.ref x0), .val (.int x1)] [] := by first | (simp [entryFrame, mkF, argsToLocals, Value.category, maxLocals]; done) | rfl
theorem own_pd3 : parseMethodDescriptor "(C)Z" = some ⟨[.char], some .boolean⟩ := by decide +kernel
set_option maxRecDepth 65536 in
set_option maxHeartbeats 40000000 in
theorem own_rm_take (l : Launch) (Z : State) (a0 : Array Value) (hw : ∀ d ∈ tables_1, d.before a0 Z = true) (r0 : Addr) (p1 : Int32) (sx : Addr) (tx : Addr) (kb : ClassId) (ps : Int32) (pe : Int32) (q : Int32) (i : Nat) (j : Nat) (G1 : Int32) (G3 : Value) (h0 : Heap) (n0 : Nat) (Z0 : n0 ≤ h0.size) (E0 : Exa Z h0 r0 "com/example/predicant/predicant/format/Cursor") (Ft : Fld Z h0 r0 "com/example/predicant/predicant/format/Cursor" "m_sText" "Ljava/lang/String;" (.ref sx)) (Fp : Fld Z h0 r0 "com/example/predicant/predicant/format/Cursor" "m_nPosition" "I" (.int ps)) (Fe : Fld Z h0 r0 "com/example/predicant/predicant/format/Cursor" "m_nEnd" "I" (.int pe)) (Es : Exa Z h0 sx "java/lang/String") (Vs : Fld Z h0 sx "java/lang/String" "value" "[B" (.ref tx)) (Cs : Fld Z h0 sx "java/lang/String" "coder" "B" (.int (0 : Int32))) (Ks : Arv Z h0 tx kb .byte (4 : Int32) (((own_cs q).map (fun c => c.toInt8.toInt32)).map Value.int) (.int 0)) (hi : ps = Int32.ofNat i) (hj : pe = Int32.ofNat j) (hij : i ≤ j ∧ j ≤ 4) (O2 : Sta Z h0 "java/lang/String" "COMPACT_STRINGS" "Z" (.int G1)) (P5 : ¬ G1 = (0 : Int32)) (O4 : Sta Z h0 "jdk/internal/util/Preconditions" "SIOOBE_FORMATTER" "Ljava/util/function/BiFunction;" G3) (rG3 : G3.isRef = true) (g0 : n0 ≤ r0) (nst : sx ≠ r0) (ntt : tx ≠ r0) : own_Con l Z [] (⟨"com/example/predicant/predicant/format/Cursor", "take", "(C)Z"⟩ : MethodName) prog_31_method_7_code 2 (some .boolean) ({ frames := 5, cells := 0, slots := 0, locals := 66 } : Room) #[(.ref r0), (.int p1)] h0 (fun v h L => v = some (.int (own_ia r0 ps pe (own_t q i) p1)) ∧ Fr n0 L ∧ Keep h0 h [r0] ∧ Fld Z h r0 "com/example/predicant/predicant/format/Cursor" "m_nPosition" "I" (.int (if (own_ia r0 ps pe (own_t q i) p1) = (0 : Int32) then ps else ps + (1 : Int32))) ∧ Fld Z h r0 "com/example/predicant/predicant/format/Cursor" "m_nEnd" "I" (.int pe)) := by
  refine own_body (plainFor_of_name own_pn_Cursor) ?_
  intro p e s m below meth c s₁ X0 hx hby hml hret hlk hown hnm hZ e0
  have K00 : Keep h0 h0 [] := Keep.refl _ _
  have N0 := Fr.nil n0
  have K0 : Keep h0 h0 [r0] := Keep.refl _ _
  refine oS (u' := s₁.setTop (mkF m 0 #[.val (.ref r0), .val (.int p1)] [])) (fun _ kst => castTop (own_ef5 m r0 p1) kst) ?_
  refine oS (u' := s₁.setTop (mkF m 1 #[.val (.ref r0), .val (.int p1)] [(.ref r0)])) (fun _ kst => XS.aloadN X0.here hx rfl (hb hby own_d5_0) rfl rfl kst) ?_
  refine oS (u' := s₁.setTop (mkF m 2 #[.val (.ref r0), .val (.int p1)] [(.int p1), (.ref r0)])) (fun _ kst => XS.iloadN X0.here hx rfl (hb hby own_d5_1) rfl kst) ?_
  obtain ⟨T16, X16, e16, st16⟩ := own_callVP X0 hx hZ (y := (⟨"com/example/predicant/predicant/format/Cursor", "isAt", "(C)Z"⟩ : MethodName)) (z := (⟨"com/example/predicant/predicant/format/Cursor", "isAt", "(C)Z"⟩ : MethodName)) hown (hw _ (List.mem_of_getElem? (i := 56) rfl)) (hw _ (List.mem_of_getElem? (i := 57) rfl)) (notFace_of_selects (args := #[]) (mvT hZ (hw _ (List.mem_of_getElem? (i := 59) rfl)))) (hw _ (List.mem_of_getElem? (i := 59) rfl)) (hw _ (List.mem_of_getElem? (i := 58) rfl)) (by decide) e0 E0 (W := 0) (own_rm_isat l Z a0 hw r0 p1 sx tx kb ps pe q i j G1 G3 h0 E0 Ft Fp Fe Es Vs Cs Ks hi hj hij O2 P5 O4 rG3) (hw _ (List.mem_of_getElem? (i := 60) rfl)) (hw _ (List.mem_of_getElem? (i := 33) rfl)) (by decide) (by decide) (g := (mkF m 2 #[.val (.ref r0), .val (.int p1)] [(.int p1), (.ref r0)])) rfl (by rw [hml]; rfl) (b := r0) (argsL := [(.int p1)]) (rest := []) (lenOf own_pd3 rfl) rfl (by show 2 * 0 + _ ≤ _; exact Nat.le_of_eq rfl) (hb hby own_d5_2) (by decide) (by decide)
  refine oS (u' := T16.setTop (mkF m 5 #[.val (.ref r0), .val (.int p1)] [(.int (own_ia r0 ps pe (own_t q i) p1))])) st16 ?_
  by_cases hc17 : (own_ia r0 ps pe (own_t q i) p1) = (0 : Int32)
  · refine oS (u' := T16.setTop (mkF m 8 #[.val (.ref r0), .val (.int p1)] [])) (fun _ kst => XS.ifNo X16.here hx rfl (hb hby own_d5_5) rfl ((if0 _ _).trans (teq hc17).2) kst) ?_
    refine oS (u' := T16.setTop (mkF m 9 #[.val (.ref r0), .val (.int p1)] [(.int (0 : Int32))])) (fun _ kst => XS.iconst X16.here hx rfl (hb hby own_d5_8) kst) ?_
    refine own_retN X16 hx hlk (t := .boolean) hret (by simp) (hb hby own_d5_9) ?_ (by decide) (by decide)
    show _ ∧ _
    rw [e16]
    exact ⟨(by rw [hc17]; rfl), N0, K0, (by rw [if_pos hc17]; exact Fp), Fe⟩
  · refine oS (u' := T16.setTop (mkF m 10 #[.val (.ref r0), .val (.int p1)] [])) (fun _ kst => XS.ifYes X16.here hx rfl (pc0 := 5) (pc' := 10) rfl (hb hby own_d5_5) rfl ((if0 _ _).trans (feq hc17).2) (by decide) (by decide) kst) ?_
    refine oS (u' := T16.setTop (mkF m 11 #[.val (.ref r0), .val (.int p1)] [(.ref r0)])) (fun _ kst => XS.aloadN X16.here hx rfl (hb hby own_d5_10) rfl rfl kst) ?_
    refine oS (u' := T16.setTop (mkF m 12 #[.val (.ref r0), .val (.int p1)] [(.ref r0), (.ref r0)])) (fun _ kst => XS.dup X16.here hx rfl (hb hby own_d5_11) rfl rfl kst) ?_
    obtain ⟨T18, X18, e18, st18⟩ := getF X16 hx hZ hown (host := "") (Or.inl (hw _ (List.mem_of_getElem? (i := 42) rfl))) Via.refl e16 Fp (g := (mkF m 12 #[.val (.ref r0), .val (.int p1)] [(.ref r0), (.ref r0)])) rfl rfl (hb hby own_d5_12)
    refine oS (u' := T18.setTop (mkF m 15 #[.val (.ref r0), .val (.int p1)] [(.int ps), (.ref r0)])) st18 ?_
    refine oS (u' := T18.setTop (mkF m 16 #[.val (.ref r0), .val (.int p1)] [(.int (1 : Int32)), (.int ps), (.ref r0)])) (fun _ kst => XS.iconst X18.here hx rfl (hb hby own_d5_15) kst) ?_
    refine oS (u' := T18.setTop (mkF m 17 #[.val (.ref r0), .val (.int p1)] [(.int (ps + (1 : Int32))), (.ref r0)])) (fun _ kst => XS.iadd X18.here hx rfl (hb hby own_d5_16) rfl kst) ?_
    obtain ⟨T19, h19, X19, e19, W19, st19⟩ := putF X18 hx hZ hown (host := "") (Or.inl (hw _ (List.mem_of_getElem? (i := 42) rfl))) Via.refl e18 Fp E0 (Or.inl (hw _ (List.mem_of_getElem? (i := 43) rfl))) (hw _ (List.mem_of_getElem? (i := 32) rfl)) (ty := .int) (by decide) rfl rfl (g := (mkF m 17 #[.val (.ref r0), .val (.int p1)] [(.int (ps + (1 : Int32))), (.ref r0)])) rfl rfl (hb hby own_d5_17)
    have f19_E_r0 := E0.wr W19
    have f19_F_r0_m_sText := Ft.other W19 (Or.inr (slot_ne (Or.inr (hw _ (List.mem_of_getElem? (i := 41) rfl))) (Or.inl (hw _ (List.mem_of_getElem? (i := 43) rfl))) (by decide) (t := (.object "java/lang/String")) (t' := .int) (by decide) (by decide)))
    have f19_F_r0_m_nPosition := Fp.same W19
    have f19_F_r0_m_nEnd := Fe.other W19 (Or.inr (slot_ne (Or.inr (hw _ (List.mem_of_getElem? (i := 45) rfl))) (Or.inl (hw _ (List.mem_of_getElem? (i := 43) rfl))) (by decide) (t := .int) (t' := .int) (by decide) (by decide)))
    have f19_E_sx := Es.wr W19
    have f19_F_sx_value := Vs.other W19 (Or.inl nst)
    have f19_F_sx_coder := Cs.other W19 (Or.inl nst)
    have f19_V_tx := Ks.other W19 ntt
    have K19 := K0.wr W19 (Or.inl (List.mem_of_getElem? (i := 0) rfl))
    have Z19 := Nat.le_trans Z0 (Keep.of_wr W19).1
    have N19 := Fr.snoc X19 N0 g0
    refine oS (u' := T19.setTop (mkF m 20 #[.val (.ref r0), .val (.int p1)] [])) st19 ?_
    refine oS (u' := T19.setTop (mkF m 21 #[.val (.ref r0), .val (.int p1)] [(.int (1 : Int32))])) (fun _ kst => XS.iconst X19.here hx rfl (hb hby own_d5_20) kst) ?_
    refine own_retN X19 hx hlk (t := .boolean) hret (by simp) (hb hby own_d5_21) ?_ (by decide) (by decide)
    show _ ∧ _
    rw [e19]
    exact ⟨(by rw [own_ia_one hc17]; rfl), N19, K19, (by rw [if_neg hc17]; exact f19_F_r0_m_nPosition), f19_F_r0_m_nEnd⟩
def own_start (x : Int32) : Int32 := (x &&& (2147483647 : Int32)) % (5 : Int32)
def own_end (x y : Int32) : Int32 := own_start x + ((y &&& (2147483647 : Int32)) % ((5 : Int32) - own_start x))
def own_S (x : Int32) : Nat := (own_start x).toInt.toNat
def own_E (x y : Int32) : Nat := (own_end x y).toInt.toNat
def own_w (p1 p2 p4 : Int32) : Int32 := if (p4 &&& (256 : Int32)) = (0 : Int32) then own_c p4 else (if own_start p2 < (4 : Int32) then own_t p1 (own_S p2) else own_c p4)
def own_ex (p1 p2 p3 p4 : Int32) : Int32 := if own_start p2 < own_end p2 p3 then (if own_t p1 (own_S p2) = own_w p1 p2 p4 then (1 : Int32) else (0 : Int32)) else (0 : Int32)
theorem own_rem_in (x n : Int32) (h : 0 < n.toInt) : 0 ≤ ((x &&& (2147483647 : Int32)) % n).toInt ∧ ((x &&& (2147483647 : Int32)) % n).toInt < n.toInt := by
  have e1 : (x &&& (2147483647 : Int32)).toInt = x.toInt % 2 ^ 31 := Jvm.Kit.i32_mask x 2147483647 (k := 31) (by decide) (by decide)
  have e2 : ((x &&& (2147483647 : Int32)) % n).toInt = (x &&& (2147483647 : Int32)).toInt % n.toInt := Jvm.Kit.i32_rem_nonneg (by omega)
  rw [e2]
  exact ⟨Int.emod_nonneg _ (by omega), Int.emod_lt_of_pos _ h⟩
theorem own_start_in (x : Int32) : 0 ≤ (own_start x).toInt ∧ (own_start x).toInt < 5 := own_rem_in x 5 (by decide)
theorem own_start_int (x : Int32) : (own_start x).toInt = ((own_S x : Nat) : Int) := by have := own_start_in x; unfold own_S; omega
theorem own_five (x : Int32) : ((5 : Int32) - own_start x).toInt = 5 - (own_start x).toInt := by
  have := own_start_in x
  rw [Jvm.Kit.i32_sub (by rw [show (5 : Int32).toInt = 5 from rfl]; omega) (by rw [show (5 : Int32).toInt = 5 from rfl]; omega)]; rfl
theorem own_nz (x : Int32) : (5 : Int32) - own_start x ≠ 0 := fun h => by
  have := own_five x; have := own_start_in x; rw [h, show (0 : Int32).toInt = 0 from rfl] at *; omega
theorem own_end_in (x y : Int32) : (own_start x).toInt ≤ (own_end x y).toInt ∧ (own_end x y).toInt < 5 := by
  have h1 := own_start_in x
  have h2 := own_five x
  have h3 := own_rem_in y ((5 : Int32) - own_start x) (by omega)
  unfold own_end
  rw [Jvm.Kit.i32_add (by omega) (by omega)]; omega
theorem own_end_int (x y : Int32) : (own_end x y).toInt = ((own_E x y : Nat) : Int) := by have := own_start_in x; have := own_end_in x y; unfold own_E; omega
theorem own_SE (x y : Int32) : own_S x ≤ own_E x y ∧ own_E x y ≤ 4 := by have := own_start_in x; have := own_end_in x y; unfold own_S own_E; omega
theorem own_start_of (x : Int32) : own_start x = Int32.ofNat (own_S x) := Int32.toInt_inj.mp (by rw [own_start_int]; exact (Int32.toInt_ofNat_small (by have := own_start_in x; unfold own_S; omega)).symm)
theorem own_end_of (x y : Int32) : own_end x y = Int32.ofNat (own_E x y) := Int32.toInt_inj.mp (by rw [own_end_int]; exact (Int32.toInt_ofNat_small (by have := own_SE x y; omega)).symm)
theorem own_S4 (x : Int32) (h : own_start x < (4 : Int32)) : own_S x < 4 := by
  rw [Int32.lt_iff_toInt_lt, own_start_int, show (4 : Int32).toInt = 4 from rfl] at h; omega
theorem own_SE4 (x y : Int32) (h : own_start x < own_end x y) : own_S x < 4 := by
  rw [Int32.lt_iff_toInt_lt, own_start_int, own_end_int] at h; have := own_SE x y; omega
theorem own_ae_eq (a : Addr) (x y : Int32) : own_ae a x y = (if x = y then (1 : Int32) else (0 : Int32)) := by
  unfold own_ae
  by_cases h : x = y
  · rw [if_pos h, if_pos h]; rfl
  · rw [if_neg h, if_neg h]; rfl
theorem own_took (a : Addr) (p1 p2 p3 p4 : Int32) : own_ia a (own_start p2) (own_end p2 p3) (own_t p1 (own_S p2)) (own_w p1 p2 p4) = own_ex p1 p2 p3 p4 := by
  unfold own_ia own_ex
  rw [own_ae_eq]
  have h0 := own_end_in p2 p3
  by_cases h : own_start p2 = own_end p2 p3
  · have h' : ¬ own_start p2 < own_end p2 p3 := by rw [← h, Int32.lt_iff_toInt_lt]; omega
    rw [if_pos h, if_neg (by decide), if_neg h']
  · have h' : own_start p2 < own_end p2 p3 := by rw [Int32.lt_iff_toInt_lt]; rw [← Int32.toInt_inj] at h; omega
    rw [if_neg h, if_pos rfl, if_pos h']
theorem own_posn (a : Addr) (p1 p2 p3 p4 : Int32) : (if own_ia a (own_start p2) (own_end p2 p3) (own_t p1 (own_S p2)) (own_w p1 p2 p4) = (0 : Int32) then own_start p2 else own_start p2 + (1 : Int32)) = (if own_ex p1 p2 p3 p4 = (0 : Int32) then own_start p2 else own_start p2 + (1 : Int32)) := by rw [own_took]
theorem own_last (a : Addr) (p1 p2 p3 p4 : Int32) : own_ae a (if own_ia a (own_start p2) (own_end p2 p3) (own_t p1 (own_S p2)) (own_w p1 p2 p4) = (0 : Int32) then own_start p2 else own_start p2 + (1 : Int32)) (own_end p2 p3) = (if (if own_ex p1 p2 p3 p4 = (0 : Int32) then own_start p2 else own_start p2 + (1 : Int32)) = own_end p2 p3 then (1 : Int32) else (0 : Int32)) := by rw [own_took, own_ae_eq]

theorem own_pn_CursorAtEndPinLaw : plainName "com/example/predicant/predicant/format/CursorAtEndPinLaw" = true := by first | (simp [plainName, overriddenIn]; done) | decide +kernel
theorem own_ef0 (m : MethodId) (x0 : Int32) (x1 : Int32) (x2 : Int32) (x3 : Int32) : entryFrame m #[(.int x0), (.int x1), (.int x2), (.int x3)] maxLocals = mkF m 0 #[.val (.int x0), .val (.int x1), .val (.int x2), .val (.int x3), .unset, .unset, .unset, .unset, .unset, .unset, .unset, .unset, .unset, .unset, .unset, .unset] [] := by first | (simp [entryFrame, mkF, argsToLocals, Value.category, maxLocals]; done) | rfl
theorem own_pd4 : parseMethodDescriptor "([C)V" = some ⟨[(.array .char)], none⟩ := by decide +kernel
theorem own_pd5 : parseMethodDescriptor "(ILjava/lang/String;II)V" = some ⟨[.int, (.object "java/lang/String"), .int, .int], none⟩ := by decide +kernel
theorem own_pd6 : parseMethodDescriptor "()I" = some ⟨[], some .int⟩ := by decide +kernel
set_option maxRecDepth 65536 in
set_option maxHeartbeats 40000000 in
theorem own_law (l : Launch) (Z : State) (a0 : Array Value) (hw : ∀ d ∈ tables_1, d.before a0 Z = true) (p1 : Int32) (p2 : Int32) (p3 : Int32) (p4 : Int32) (G1 : Int32) (G3 : Value) (h0 : Heap) (n0 : Nat) (Z0 : n0 ≤ h0.size) (O2 : Sta Z h0 "java/lang/String" "COMPACT_STRINGS" "Z" (.int G1)) (P5 : ¬ G1 = (0 : Int32)) (O4 : Sta Z h0 "jdk/internal/util/Preconditions" "SIOOBE_FORMATTER" "Ljava/util/function/BiFunction;" G3) (rG3 : G3.isRef = true) : own_Con l Z tables_1 x code maxLocals ret room_1 #[(.int p1), (.int p2), (.int p3), (.int p4)] h0 (fun v _ L => v = some (.int (1 : Int32)) ∧ Fr n0 L) := by
  refine own_body (plainFor_of_name own_pn_CursorAtEndPinLaw) ?_
  intro p e s m below meth c s₁ X0 hx hby hml hret hlk hown hnm hZ e0
  have K0 : Keep h0 h0 [] := Keep.refl _ _
  have N0 := Fr.nil n0
  refine oS (u' := s₁.setTop (mkF m 0 #[.val (.int p1), .val (.int p2), .val (.int p3), .val (.int p4), .unset, .unset, .unset, .unset, .unset, .unset, .unset, .unset, .unset, .unset, .unset, .unset] [])) (fun _ kst => castTop (own_ef0 m p1 p2 p3 p4) kst) ?_
  refine oS (u' := s₁.setTop (mkF m 1 #[.val (.int p1), .val (.int p2), .val (.int p3), .val (.int p4), .unset, .unset, .unset, .unset, .unset, .unset, .unset, .unset, .unset, .unset, .unset, .unset] [(.int (4 : Int32))])) (fun _ kst => XS.iconst X0.here hx rfl (hb hby at_0) kst) ?_
  obtain ⟨T20, h20, X20, e20, E20, A20, st20⟩ := own_newP X0 hx hZ (hw _ (List.mem_of_getElem? (i := 0) rfl)) e0 (g := (mkF m 1 #[.val (.int p1), .val (.int p2), .val (.int p3), .val (.int p4), .unset, .unset, .unset, .unset, .unset, .unset, .unset, .unset, .unset, .unset, .unset, .unset] [(.int (4 : Int32))])) rfl (hb hby at_1) rfl (k := 4) (by decide) (cap := 4) (by decide) (by decide) (by decide) (by decide)
  obtain ⟨b20, g20⟩ : ∃ z, z = h0.size := ⟨_, rfl⟩
  rw [← g20] at A20 st20
  have gb_b20 : n0 ≤ b20 := Nat.le_trans Z0 (Nat.le_of_eq g20.symm)
  have sz_b20 : h0.size ≤ b20 := Nat.le_trans K0.1 (Nat.le_of_eq g20.symm)
  have K20 := K0.ext E20
  have Z20 := Nat.le_trans Z0 E20.1
  have V20 : own_Ar Z h20 b20 .char 4 (fun _ => .int (0 : Int32)) := A20
  refine oS (u' := T20.setTop (mkF m 3 #[.val (.int p1), .val (.int p2), .val (.int p3), .val (.int p4), .unset, .unset, .unset, .unset, .unset, .unset, .unset, .unset, .unset, .unset, .unset, .unset] [(.ref b20)])) st20 ?_
  refine oS (u' := T20.setTop (mkF m 5 #[.val (.int p1), .val (.int p2), .val (.int p3), .val (.int p4), .val (.ref b20), .unset, .unset, .unset, .unset, .unset, .unset, .unset, .unset, .unset, .unset, .unset] [])) (fun _ kst => XS.astore X20.here hx rfl (hb hby at_3) rfl rfl (l' := #[.val (.int p1), .val (.int p2), .val (.int p3), .val (.int p4), .val (.ref b20), .unset, .unset, .unset, .unset, .unset, .unset, .unset, .unset, .unset, .unset, .unset]) rfl kst) ?_
  refine oS (u' := T20.setTop (mkF m 7 #[.val (.int p1), .val (.int p2), .val (.int p3), .val (.int p4), .val (.ref b20), .unset, .unset, .unset, .unset, .unset, .unset, .unset, .unset, .unset, .unset, .unset] [(.ref b20)])) (fun _ kst => XS.aload X20.here hx rfl (hb hby at_5) rfl rfl kst) ?_
  refine oS (u' := T20.setTop (mkF m 8 #[.val (.int p1), .val (.int p2), .val (.int p3), .val (.int p4), .val (.ref b20), .unset, .unset, .unset, .unset, .unset, .unset, .unset, .unset, .unset, .unset, .unset] [(.int (0 : Int32)), (.ref b20)])) (fun _ kst => XS.iconst X20.here hx rfl (hb hby at_7) kst) ?_
  refine oS (u' := T20.setTop (mkF m 9 #[.val (.int p1), .val (.int p2), .val (.int p3), .val (.int p4), .val (.ref b20), .unset, .unset, .unset, .unset, .unset, .unset, .unset, .unset, .unset, .unset, .unset] [(.int p1), (.int (0 : Int32)), (.ref b20)])) (fun _ kst => XS.iloadN X20.here hx rfl (hb hby at_8) rfl kst) ?_
  refine oS (u' := T20.setTop (mkF m 12 #[.val (.int p1), .val (.int p2), .val (.int p3), .val (.int p4), .val (.ref b20), .unset, .unset, .unset, .unset, .unset, .unset, .unset, .unset, .unset, .unset, .unset] [(.int (255 : Int32)), (.int p1), (.int (0 : Int32)), (.ref b20)])) (fun _ kst => XS.sipush X20.here hx rfl (hb hby at_9) kst) ?_
  refine oS (u' := T20.setTop (mkF m 13 #[.val (.int p1), .val (.int p2), .val (.int p3), .val (.int p4), .val (.ref b20), .unset, .unset, .unset, .unset, .unset, .unset, .unset, .unset, .unset, .unset, .unset] [(.int (p1 &&& (255 : Int32))), (.int (0 : Int32)), (.ref b20)])) (fun _ kst => XS.iand X20.here hx rfl (hb hby at_12) rfl kst) ?_
  refine oS (u' := T20.setTop (mkF m 14 #[.val (.int p1), .val (.int p2), .val (.int p3), .val (.int p4), .val (.ref b20), .unset, .unset, .unset, .unset, .unset, .unset, .unset, .unset, .unset, .unset, .unset] [(.int (own_c p1)), (.int (0 : Int32)), (.ref b20)])) (fun _ kst => XS.i2c X20.here hx rfl (hb hby at_13) rfl kst) ?_
  obtain ⟨T21, h21, X21, e21, W21, st21⟩ := own_stC X20 hx hZ e20 V20 (k := 0) (by decide) (by decide) (g := (mkF m 14 #[.val (.int p1), .val (.int p2), .val (.int p3), .val (.int p4), .val (.ref b20), .unset, .unset, .unset, .unset, .unset, .unset, .unset, .unset, .unset, .unset, .unset] [(.int (own_c p1)), (.int (0 : Int32)), (.ref b20)])) rfl rfl (hb hby at_14)
  have f21_A_b20 := V20.set W21 (by decide)
  have K21 := K20.wr W21 (Or.inr sz_b20)
  have Z21 := Nat.le_trans Z20 (Keep.of_wr W21).1
  have N21 := Fr.snoc X21 N0 gb_b20
  refine oS (u' := T21.setTop (mkF m 15 #[.val (.int p1), .val (.int p2), .val (.int p3), .val (.int p4), .val (.ref b20), .unset, .unset, .unset, .unset, .unset, .unset, .unset, .unset, .unset, .unset, .unset] [])) st21 ?_
  refine oS (u' := T21.setTop (mkF m 17 #[.val (.int p1), .val (.int p2), .val (.int p3), .val (.int p4), .val (.ref b20), .unset, .unset, .unset, .unset, .unset, .unset, .unset, .unset, .unset, .unset, .unset] [(.ref b20)])) (fun _ kst => XS.aload X21.here hx rfl (hb hby at_15) rfl rfl kst) ?_
  refine oS (u' := T21.setTop (mkF m 18 #[.val (.int p1), .val (.int p2), .val (.int p3), .val (.int p4), .val (.ref b20), .unset, .unset, .unset, .unset, .unset, .unset, .unset, .unset, .unset, .unset, .unset] [(.int (1 : Int32)), (.ref b20)])) (fun _ kst => XS.iconst X21.here hx rfl (hb hby at_17) kst) ?_
  refine oS (u' := T21.setTop (mkF m 19 #[.val (.int p1), .val (.int p2), .val (.int p3), .val (.int p4), .val (.ref b20), .unset, .unset, .unset, .unset, .unset, .unset, .unset, .unset, .unset, .unset, .unset] [(.int p1), (.int (1 : Int32)), (.ref b20)])) (fun _ kst => XS.iloadN X21.here hx rfl (hb hby at_18) rfl kst) ?_
  refine oS (u' := T21.setTop (mkF m 21 #[.val (.int p1), .val (.int p2), .val (.int p3), .val (.int p4), .val (.ref b20), .unset, .unset, .unset, .unset, .unset, .unset, .unset, .unset, .unset, .unset, .unset] [(.int (8 : Int32)), (.int p1), (.int (1 : Int32)), (.ref b20)])) (fun _ kst => XS.bipush X21.here hx rfl (hb hby at_19) kst) ?_
  refine oS (u' := T21.setTop (mkF m 22 #[.val (.int p1), .val (.int p2), .val (.int p3), .val (.int p4), .val (.ref b20), .unset, .unset, .unset, .unset, .unset, .unset, .unset, .unset, .unset, .unset, .unset] [(.int (Jvm.Free.XT.ushr p1 (8 : Int32))), (.int (1 : Int32)), (.ref b20)])) (fun _ kst => XS.iushr X21.here hx rfl (hb hby at_21) rfl kst) ?_
  refine oS (u' := T21.setTop (mkF m 25 #[.val (.int p1), .val (.int p2), .val (.int p3), .val (.int p4), .val (.ref b20), .unset, .unset, .unset, .unset, .unset, .unset, .unset, .unset, .unset, .unset, .unset] [(.int (255 : Int32)), (.int (Jvm.Free.XT.ushr p1 (8 : Int32))), (.int (1 : Int32)), (.ref b20)])) (fun _ kst => XS.sipush X21.here hx rfl (hb hby at_22) kst) ?_
  refine oS (u' := T21.setTop (mkF m 26 #[.val (.int p1), .val (.int p2), .val (.int p3), .val (.int p4), .val (.ref b20), .unset, .unset, .unset, .unset, .unset, .unset, .unset, .unset, .unset, .unset, .unset] [(.int ((Jvm.Free.XT.ushr p1 (8 : Int32)) &&& (255 : Int32))), (.int (1 : Int32)), (.ref b20)])) (fun _ kst => XS.iand X21.here hx rfl (hb hby at_25) rfl kst) ?_
  refine oS (u' := T21.setTop (mkF m 27 #[.val (.int p1), .val (.int p2), .val (.int p3), .val (.int p4), .val (.ref b20), .unset, .unset, .unset, .unset, .unset, .unset, .unset, .unset, .unset, .unset, .unset] [(.int (own_c (Jvm.Free.XT.ushr p1 (8 : Int32)))), (.int (1 : Int32)), (.ref b20)])) (fun _ kst => XS.i2c X21.here hx rfl (hb hby at_26) rfl kst) ?_
  obtain ⟨T22, h22, X22, e22, W22, st22⟩ := own_stC X21 hx hZ e21 f21_A_b20 (k := 1) (by decide) (by decide) (g := (mkF m 27 #[.val (.int p1), .val (.int p2), .val (.int p3), .val (.int p4), .val (.ref b20), .unset, .unset, .unset, .unset, .unset, .unset, .unset, .unset, .unset, .unset, .unset] [(.int (own_c (Jvm.Free.XT.ushr p1 (8 : Int32)))), (.int (1 : Int32)), (.ref b20)])) rfl rfl (hb hby at_27)
  have f22_A_b20 := f21_A_b20.set W22 (by decide)
  have K22 := K21.wr W22 (Or.inr sz_b20)
  have Z22 := Nat.le_trans Z21 (Keep.of_wr W22).1
  have N22 := Fr.snoc X22 N21 gb_b20
  refine oS (u' := T22.setTop (mkF m 28 #[.val (.int p1), .val (.int p2), .val (.int p3), .val (.int p4), .val (.ref b20), .unset, .unset, .unset, .unset, .unset, .unset, .unset, .unset, .unset, .unset, .unset] [])) st22 ?_
  refine oS (u' := T22.setTop (mkF m 30 #[.val (.int p1), .val (.int p2), .val (.int p3), .val (.int p4), .val (.ref b20), .unset, .unset, .unset, .unset, .unset, .unset, .unset, .unset, .unset, .unset, .unset] [(.ref b20)])) (fun _ kst => XS.aload X22.here hx rfl (hb hby at_28) rfl rfl kst) ?_
  refine oS (u' := T22.setTop (mkF m 31 #[.val (.int p1), .val (.int p2), .val (.int p3), .val (.int p4), .val (.ref b20), .unset, .unset, .unset, .unset, .unset, .unset, .unset, .unset, .unset, .unset, .unset] [(.int (2 : Int32)), (.ref b20)])) (fun _ kst => XS.iconst X22.here hx rfl (hb hby at_30) kst) ?_
  refine oS (u' := T22.setTop (mkF m 32 #[.val (.int p1), .val (.int p2), .val (.int p3), .val (.int p4), .val (.ref b20), .unset, .unset, .unset, .unset, .unset, .unset, .unset, .unset, .unset, .unset, .unset] [(.int p1), (.int (2 : Int32)), (.ref b20)])) (fun _ kst => XS.iloadN X22.here hx rfl (hb hby at_31) rfl kst) ?_
  refine oS (u' := T22.setTop (mkF m 34 #[.val (.int p1), .val (.int p2), .val (.int p3), .val (.int p4), .val (.ref b20), .unset, .unset, .unset, .unset, .unset, .unset, .unset, .unset, .unset, .unset, .unset] [(.int (16 : Int32)), (.int p1), (.int (2 : Int32)), (.ref b20)])) (fun _ kst => XS.bipush X22.here hx rfl (hb hby at_32) kst) ?_
  refine oS (u' := T22.setTop (mkF m 35 #[.val (.int p1), .val (.int p2), .val (.int p3), .val (.int p4), .val (.ref b20), .unset, .unset, .unset, .unset, .unset, .unset, .unset, .unset, .unset, .unset, .unset] [(.int (Jvm.Free.XT.ushr p1 (16 : Int32))), (.int (2 : Int32)), (.ref b20)])) (fun _ kst => XS.iushr X22.here hx rfl (hb hby at_34) rfl kst) ?_
  refine oS (u' := T22.setTop (mkF m 38 #[.val (.int p1), .val (.int p2), .val (.int p3), .val (.int p4), .val (.ref b20), .unset, .unset, .unset, .unset, .unset, .unset, .unset, .unset, .unset, .unset, .unset] [(.int (255 : Int32)), (.int (Jvm.Free.XT.ushr p1 (16 : Int32))), (.int (2 : Int32)), (.ref b20)])) (fun _ kst => XS.sipush X22.here hx rfl (hb hby at_35) kst) ?_
  refine oS (u' := T22.setTop (mkF m 39 #[.val (.int p1), .val (.int p2), .val (.int p3), .val (.int p4), .val (.ref b20), .unset, .unset, .unset, .unset, .unset, .unset, .unset, .unset, .unset, .unset, .unset] [(.int ((Jvm.Free.XT.ushr p1 (16 : Int32)) &&& (255 : Int32))), (.int (2 : Int32)), (.ref b20)])) (fun _ kst => XS.iand X22.here hx rfl (hb hby at_38) rfl kst) ?_
  refine oS (u' := T22.setTop (mkF m 40 #[.val (.int p1), .val (.int p2), .val (.int p3), .val (.int p4), .val (.ref b20), .unset, .unset, .unset, .unset, .unset, .unset, .unset, .unset, .unset, .unset, .unset] [(.int (own_c (Jvm.Free.XT.ushr p1 (16 : Int32)))), (.int (2 : Int32)), (.ref b20)])) (fun _ kst => XS.i2c X22.here hx rfl (hb hby at_39) rfl kst) ?_
  obtain ⟨T23, h23, X23, e23, W23, st23⟩ := own_stC X22 hx hZ e22 f22_A_b20 (k := 2) (by decide) (by decide) (g := (mkF m 40 #[.val (.int p1), .val (.int p2), .val (.int p3), .val (.int p4), .val (.ref b20), .unset, .unset, .unset, .unset, .unset, .unset, .unset, .unset, .unset, .unset, .unset] [(.int (own_c (Jvm.Free.XT.ushr p1 (16 : Int32)))), (.int (2 : Int32)), (.ref b20)])) rfl rfl (hb hby at_40)
  have f23_A_b20 := f22_A_b20.set W23 (by decide)
  have K23 := K22.wr W23 (Or.inr sz_b20)
  have Z23 := Nat.le_trans Z22 (Keep.of_wr W23).1
  have N23 := Fr.snoc X23 N22 gb_b20
  refine oS (u' := T23.setTop (mkF m 41 #[.val (.int p1), .val (.int p2), .val (.int p3), .val (.int p4), .val (.ref b20), .unset, .unset, .unset, .unset, .unset, .unset, .unset, .unset, .unset, .unset, .unset] [])) st23 ?_
  refine oS (u' := T23.setTop (mkF m 43 #[.val (.int p1), .val (.int p2), .val (.int p3), .val (.int p4), .val (.ref b20), .unset, .unset, .unset, .unset, .unset, .unset, .unset, .unset, .unset, .unset, .unset] [(.ref b20)])) (fun _ kst => XS.aload X23.here hx rfl (hb hby at_41) rfl rfl kst) ?_
  refine oS (u' := T23.setTop (mkF m 44 #[.val (.int p1), .val (.int p2), .val (.int p3), .val (.int p4), .val (.ref b20), .unset, .unset, .unset, .unset, .unset, .unset, .unset, .unset, .unset, .unset, .unset] [(.int (3 : Int32)), (.ref b20)])) (fun _ kst => XS.iconst X23.here hx rfl (hb hby at_43) kst) ?_
  refine oS (u' := T23.setTop (mkF m 45 #[.val (.int p1), .val (.int p2), .val (.int p3), .val (.int p4), .val (.ref b20), .unset, .unset, .unset, .unset, .unset, .unset, .unset, .unset, .unset, .unset, .unset] [(.int p1), (.int (3 : Int32)), (.ref b20)])) (fun _ kst => XS.iloadN X23.here hx rfl (hb hby at_44) rfl kst) ?_
  refine oS (u' := T23.setTop (mkF m 47 #[.val (.int p1), .val (.int p2), .val (.int p3), .val (.int p4), .val (.ref b20), .unset, .unset, .unset, .unset, .unset, .unset, .unset, .unset, .unset, .unset, .unset] [(.int (24 : Int32)), (.int p1), (.int (3 : Int32)), (.ref b20)])) (fun _ kst => XS.bipush X23.here hx rfl (hb hby at_45) kst) ?_
  refine oS (u' := T23.setTop (mkF m 48 #[.val (.int p1), .val (.int p2), .val (.int p3), .val (.int p4), .val (.ref b20), .unset, .unset, .unset, .unset, .unset, .unset, .unset, .unset, .unset, .unset, .unset] [(.int (Jvm.Free.XT.ushr p1 (24 : Int32))), (.int (3 : Int32)), (.ref b20)])) (fun _ kst => XS.iushr X23.here hx rfl (hb hby at_47) rfl kst) ?_
  refine oS (u' := T23.setTop (mkF m 51 #[.val (.int p1), .val (.int p2), .val (.int p3), .val (.int p4), .val (.ref b20), .unset, .unset, .unset, .unset, .unset, .unset, .unset, .unset, .unset, .unset, .unset] [(.int (255 : Int32)), (.int (Jvm.Free.XT.ushr p1 (24 : Int32))), (.int (3 : Int32)), (.ref b20)])) (fun _ kst => XS.sipush X23.here hx rfl (hb hby at_48) kst) ?_
  refine oS (u' := T23.setTop (mkF m 52 #[.val (.int p1), .val (.int p2), .val (.int p3), .val (.int p4), .val (.ref b20), .unset, .unset, .unset, .unset, .unset, .unset, .unset, .unset, .unset, .unset, .unset] [(.int ((Jvm.Free.XT.ushr p1 (24 : Int32)) &&& (255 : Int32))), (.int (3 : Int32)), (.ref b20)])) (fun _ kst => XS.iand X23.here hx rfl (hb hby at_51) rfl kst) ?_
  refine oS (u' := T23.setTop (mkF m 53 #[.val (.int p1), .val (.int p2), .val (.int p3), .val (.int p4), .val (.ref b20), .unset, .unset, .unset, .unset, .unset, .unset, .unset, .unset, .unset, .unset, .unset] [(.int (own_c (Jvm.Free.XT.ushr p1 (24 : Int32)))), (.int (3 : Int32)), (.ref b20)])) (fun _ kst => XS.i2c X23.here hx rfl (hb hby at_52) rfl kst) ?_
  obtain ⟨T24, h24, X24, e24, W24, st24⟩ := own_stC X23 hx hZ e23 f23_A_b20 (k := 3) (by decide) (by decide) (g := (mkF m 53 #[.val (.int p1), .val (.int p2), .val (.int p3), .val (.int p4), .val (.ref b20), .unset, .unset, .unset, .unset, .unset, .unset, .unset, .unset, .unset, .unset, .unset] [(.int (own_c (Jvm.Free.XT.ushr p1 (24 : Int32)))), (.int (3 : Int32)), (.ref b20)])) rfl rfl (hb hby at_53)
  have f24_A_b20 := f23_A_b20.set W24 (by decide)
  have K24 := K23.wr W24 (Or.inr sz_b20)
  have Z24 := Nat.le_trans Z23 (Keep.of_wr W24).1
  have N24 := Fr.snoc X24 N23 gb_b20
  refine oS (u' := T24.setTop (mkF m 54 #[.val (.int p1), .val (.int p2), .val (.int p3), .val (.int p4), .val (.ref b20), .unset, .unset, .unset, .unset, .unset, .unset, .unset, .unset, .unset, .unset, .unset] [])) st24 ?_
  obtain ⟨T25, h25, X25, e25, E25, A25, D25, -, st25⟩ := newO X24 hx hZ hown (hw _ (List.mem_of_getElem? (i := 1) rfl)) (hw _ (List.mem_of_getElem? (i := 2) rfl)) (hw _ (List.mem_of_getElem? (i := 3) rfl)) e24 (g := (mkF m 54 #[.val (.int p1), .val (.int p2), .val (.int p3), .val (.int p4), .val (.ref b20), .unset, .unset, .unset, .unset, .unset, .unset, .unset, .unset, .unset, .unset, .unset] [])) rfl (hb hby at_54) (by decide) (by decide)
  obtain ⟨b25, g25⟩ : ∃ z, z = h24.size := ⟨_, rfl⟩
  rw [← g25] at A25 D25 st25
  have ne_b20_b25 : b20 ≠ b25 := Nat.ne_of_lt (Nat.lt_of_lt_of_le (f24_A_b20).lt (Nat.le_of_eq g25.symm))
  have f25_A_b20 := f24_A_b20.ext E25
  have gb_b25 : n0 ≤ b25 := Nat.le_trans Z24 (Nat.le_of_eq g25.symm)
  have sz_b25 : h0.size ≤ b25 := Nat.le_trans K24.1 (Nat.le_of_eq g25.symm)
  have K25 := K24.ext E25
  have Z25 := Nat.le_trans Z24 E25.1
  have f25_F_coder : Fld Z h25 b25 "java/lang/String" "coder" "B" (.int (0 : Int32)) := D25 (Or.inr (hw _ (List.mem_of_getElem? (i := 27) rfl))) (ty := .byte) (by decide)
  have f25_F_value : Fld Z h25 b25 "java/lang/String" "value" "[B" .null := D25 (Or.inr (hw _ (List.mem_of_getElem? (i := 29) rfl))) (ty := (.array .byte)) (by decide)
  refine oS (u' := T25.setTop (mkF m 57 #[.val (.int p1), .val (.int p2), .val (.int p3), .val (.int p4), .val (.ref b20), .unset, .unset, .unset, .unset, .unset, .unset, .unset, .unset, .unset, .unset, .unset] [(.ref b25)])) st25 ?_
  refine oS (u' := T25.setTop (mkF m 58 #[.val (.int p1), .val (.int p2), .val (.int p3), .val (.int p4), .val (.ref b20), .unset, .unset, .unset, .unset, .unset, .unset, .unset, .unset, .unset, .unset, .unset] [(.ref b25), (.ref b25)])) (fun _ kst => XS.dup X25.here hx rfl (hb hby at_57) rfl rfl kst) ?_
  refine oS (u' := T25.setTop (mkF m 60 #[.val (.int p1), .val (.int p2), .val (.int p3), .val (.int p4), .val (.ref b20), .unset, .unset, .unset, .unset, .unset, .unset, .unset, .unset, .unset, .unset, .unset] [(.ref b20), (.ref b25), (.ref b25)])) (fun _ kst => XS.aload X25.here hx rfl (hb hby at_58) rfl rfl kst) ?_
  obtain ⟨kc26, Kc26⟩ := (f25_A_b20).arv (N := (4 : Int32)) rfl (vs := ([(own_c p1), (own_c (Jvm.Free.XT.ushr p1 (8 : Int32))), (own_c (Jvm.Free.XT.ushr p1 (16 : Int32))), (own_c (Jvm.Free.XT.ushr p1 (24 : Int32)))] : List Int32).map Value.int) (d := .int 0) (own_vs p1) (own_vf p1)
  obtain ⟨v26, T26, L26, X26, hQ26, st26⟩ := own_callIB X25 hx hZ (y := (⟨"java/lang/String", "<init>", "([C)V"⟩ : MethodName)) rfl hown (hw _ (List.mem_of_getElem? (i := 4) rfl)) (hw _ (List.mem_of_getElem? (i := 5) rfl)) (hw _ (List.mem_of_getElem? (i := 6) rfl)) (by decide) e25 (W := 1) (StrChars.Road.backV (W := 1) hZ (fun d hd => hw d (own_hws d hd)) (kI := 4) (hw _ (List.mem_of_getElem? (i := 2) rfl)) (cs := ([(own_c p1), (own_c (Jvm.Free.XT.ushr p1 (8 : Int32))), (own_c (Jvm.Free.XT.ushr p1 (16 : Int32))), (own_c (Jvm.Free.XT.ushr p1 (24 : Int32)))] : List Int32)) (bs := ([(own_c p1), (own_c (Jvm.Free.XT.ushr p1 (8 : Int32))), (own_c (Jvm.Free.XT.ushr p1 (16 : Int32))), (own_c (Jvm.Free.XT.ushr p1 (24 : Int32)))] : List Int32).map (fun c => c.toInt8.toInt32)) (n := 4) gb_b25 Z25 A25 f25_F_value f25_F_coder Kc26 (O2.ext (own_kext K25)) P5 rfl rfl (by decide) (by decide) (own_cs_in p1) rfl (by decide) (by decide)) (g := (mkF m 60 #[.val (.int p1), .val (.int p2), .val (.int p3), .val (.int p4), .val (.ref b20), .unset, .unset, .unset, .unset, .unset, .unset, .unset, .unset, .unset, .unset, .unset] [(.ref b20), (.ref b25), (.ref b25)])) rfl (by rw [hml]; rfl) (rest := [(.ref b25)]) (lenOf own_pd4 rfl) rfl (by show 2 * 0 + _ ≤ _; exact Nat.le_of_eq rfl) (hb hby at_60) (by decide) (by decide)
  obtain ⟨rfl, Nq26, Kq26, Eq26, Cq26, t26, kb26, gt26, szt26, net26, Vq26, Bq26⟩ := hQ26
  have ne_b20_t26 : b20 ≠ t26 := Nat.ne_of_lt (Nat.lt_of_lt_of_le (f25_A_b20).lt szt26)
  have ne_b25_t26 : b25 ≠ t26 := Nat.ne_of_lt (Nat.lt_of_lt_of_le (A25).lt szt26)
  have sz_t26 : h0.size ≤ t26 := Nat.le_trans K25.1 szt26
  have f26_A_b20 := f25_A_b20.keep Kq26 (ninS ne_b20_b25 nin0)
  have f26_E_b25 := A25.keep Kq26
  have K26 := K25.trans Kq26 (allS (Or.inr sz_b25) all0)
  have Z26 := Nat.le_trans Z25 Kq26.1
  have N26 := Fr.app N24 Nq26
  have V27 : own_Ar Z T26.heap b20 .char 4 (fun i => .int (own_t p1 i)) := (f26_A_b20).congr (own_vt p1)
  refine oS (u' := T26.setTop (mkF m 63 #[.val (.int p1), .val (.int p2), .val (.int p3), .val (.int p4), .val (.ref b20), .unset, .unset, .unset, .unset, .unset, .unset, .unset, .unset, .unset, .unset, .unset] [(.ref b25)])) st26 ?_
  refine oS (u' := T26.setTop (mkF m 65 #[.val (.int p1), .val (.int p2), .val (.int p3), .val (.int p4), .val (.ref b20), .val (.ref b25), .unset, .unset, .unset, .unset, .unset, .unset, .unset, .unset, .unset, .unset] [])) (fun _ kst => XS.astore X26.here hx rfl (hb hby at_63) rfl rfl (l' := #[.val (.int p1), .val (.int p2), .val (.int p3), .val (.int p4), .val (.ref b20), .val (.ref b25), .unset, .unset, .unset, .unset, .unset, .unset, .unset, .unset, .unset, .unset]) rfl kst) ?_
  refine oS (u' := T26.setTop (mkF m 66 #[.val (.int p1), .val (.int p2), .val (.int p3), .val (.int p4), .val (.ref b20), .val (.ref b25), .unset, .unset, .unset, .unset, .unset, .unset, .unset, .unset, .unset, .unset] [(.int p2)])) (fun _ kst => XS.iloadN X26.here hx rfl (hb hby at_65) rfl kst) ?_
  refine oS (u' := T26.setTop (mkF m 68 #[.val (.int p1), .val (.int p2), .val (.int p3), .val (.int p4), .val (.ref b20), .val (.ref b25), .unset, .unset, .unset, .unset, .unset, .unset, .unset, .unset, .unset, .unset] [(.int (2147483647 : Int32)), (.int p2)])) (fun _ kst => X26.ldcInt hx hown (mvT hZ (hw _ (List.mem_of_getElem? (i := 30) rfl))) (g := (mkF m 66 #[.val (.int p1), .val (.int p2), .val (.int p3), .val (.int p4), .val (.ref b20), .val (.ref b25), .unset, .unset, .unset, .unset, .unset, .unset, .unset, .unset, .unset, .unset] [(.int p2)])) rfl (hb hby at_66) _ kst) ?_
  refine oS (u' := T26.setTop (mkF m 69 #[.val (.int p1), .val (.int p2), .val (.int p3), .val (.int p4), .val (.ref b20), .val (.ref b25), .unset, .unset, .unset, .unset, .unset, .unset, .unset, .unset, .unset, .unset] [(.int (p2 &&& (2147483647 : Int32)))])) (fun _ kst => XS.iand X26.here hx rfl (hb hby at_68) rfl kst) ?_
  refine oS (u' := T26.setTop (mkF m 70 #[.val (.int p1), .val (.int p2), .val (.int p3), .val (.int p4), .val (.ref b20), .val (.ref b25), .unset, .unset, .unset, .unset, .unset, .unset, .unset, .unset, .unset, .unset] [(.int (5 : Int32)), (.int (p2 &&& (2147483647 : Int32)))])) (fun _ kst => XS.iconst X26.here hx rfl (hb hby at_69) kst) ?_
  refine oS (u' := T26.setTop (mkF m 71 #[.val (.int p1), .val (.int p2), .val (.int p3), .val (.int p4), .val (.ref b20), .val (.ref b25), .unset, .unset, .unset, .unset, .unset, .unset, .unset, .unset, .unset, .unset] [(.int (own_start p2))])) (fun _ kst => iremM X26 hx rfl (hb hby at_70) rfl (by decide) kst) ?_
  refine oS (u' := T26.setTop (mkF m 73 #[.val (.int p1), .val (.int p2), .val (.int p3), .val (.int p4), .val (.ref b20), .val (.ref b25), .val (.int (own_start p2)), .unset, .unset, .unset, .unset, .unset, .unset, .unset, .unset, .unset] [])) (fun _ kst => XS.istore X26.here hx rfl (hb hby at_71) rfl (l' := #[.val (.int p1), .val (.int p2), .val (.int p3), .val (.int p4), .val (.ref b20), .val (.ref b25), .val (.int (own_start p2)), .unset, .unset, .unset, .unset, .unset, .unset, .unset, .unset, .unset]) rfl kst) ?_
  refine oS (u' := T26.setTop (mkF m 75 #[.val (.int p1), .val (.int p2), .val (.int p3), .val (.int p4), .val (.ref b20), .val (.ref b25), .val (.int (own_start p2)), .unset, .unset, .unset, .unset, .unset, .unset, .unset, .unset, .unset] [(.int (own_start p2))])) (fun _ kst => XS.iload X26.here hx rfl (hb hby at_73) rfl kst) ?_
  refine oS (u' := T26.setTop (mkF m 76 #[.val (.int p1), .val (.int p2), .val (.int p3), .val (.int p4), .val (.ref b20), .val (.ref b25), .val (.int (own_start p2)), .unset, .unset, .unset, .unset, .unset, .unset, .unset, .unset, .unset] [(.int p3), (.int (own_start p2))])) (fun _ kst => XS.iloadN X26.here hx rfl (hb hby at_75) rfl kst) ?_
  refine oS (u' := T26.setTop (mkF m 78 #[.val (.int p1), .val (.int p2), .val (.int p3), .val (.int p4), .val (.ref b20), .val (.ref b25), .val (.int (own_start p2)), .unset, .unset, .unset, .unset, .unset, .unset, .unset, .unset, .unset] [(.int (2147483647 : Int32)), (.int p3), (.int (own_start p2))])) (fun _ kst => X26.ldcInt hx hown (mvT hZ (hw _ (List.mem_of_getElem? (i := 30) rfl))) (g := (mkF m 76 #[.val (.int p1), .val (.int p2), .val (.int p3), .val (.int p4), .val (.ref b20), .val (.ref b25), .val (.int (own_start p2)), .unset, .unset, .unset, .unset, .unset, .unset, .unset, .unset, .unset] [(.int p3), (.int (own_start p2))])) rfl (hb hby at_76) _ kst) ?_
  refine oS (u' := T26.setTop (mkF m 79 #[.val (.int p1), .val (.int p2), .val (.int p3), .val (.int p4), .val (.ref b20), .val (.ref b25), .val (.int (own_start p2)), .unset, .unset, .unset, .unset, .unset, .unset, .unset, .unset, .unset] [(.int (p3 &&& (2147483647 : Int32))), (.int (own_start p2))])) (fun _ kst => XS.iand X26.here hx rfl (hb hby at_78) rfl kst) ?_
  refine oS (u' := T26.setTop (mkF m 80 #[.val (.int p1), .val (.int p2), .val (.int p3), .val (.int p4), .val (.ref b20), .val (.ref b25), .val (.int (own_start p2)), .unset, .unset, .unset, .unset, .unset, .unset, .unset, .unset, .unset] [(.int (5 : Int32)), (.int (p3 &&& (2147483647 : Int32))), (.int (own_start p2))])) (fun _ kst => XS.iconst X26.here hx rfl (hb hby at_79) kst) ?_
  refine oS (u' := T26.setTop (mkF m 82 #[.val (.int p1), .val (.int p2), .val (.int p3), .val (.int p4), .val (.ref b20), .val (.ref b25), .val (.int (own_start p2)), .unset, .unset, .unset, .unset, .unset, .unset, .unset, .unset, .unset] [(.int (own_start p2)), (.int (5 : Int32)), (.int (p3 &&& (2147483647 : Int32))), (.int (own_start p2))])) (fun _ kst => XS.iload X26.here hx rfl (hb hby at_80) rfl kst) ?_
  refine oS (u' := T26.setTop (mkF m 83 #[.val (.int p1), .val (.int p2), .val (.int p3), .val (.int p4), .val (.ref b20), .val (.ref b25), .val (.int (own_start p2)), .unset, .unset, .unset, .unset, .unset, .unset, .unset, .unset, .unset] [(.int ((5 : Int32) - (own_start p2))), (.int (p3 &&& (2147483647 : Int32))), (.int (own_start p2))])) (fun _ kst => XS.isub X26.here hx rfl (hb hby at_82) rfl kst) ?_
  refine oS (u' := T26.setTop (mkF m 84 #[.val (.int p1), .val (.int p2), .val (.int p3), .val (.int p4), .val (.ref b20), .val (.ref b25), .val (.int (own_start p2)), .unset, .unset, .unset, .unset, .unset, .unset, .unset, .unset, .unset] [(.int ((p3 &&& (2147483647 : Int32)) % ((5 : Int32) - (own_start p2)))), (.int (own_start p2))])) (fun _ kst => iremM X26 hx rfl (hb hby at_83) rfl (own_nz p2) kst) ?_
  refine oS (u' := T26.setTop (mkF m 85 #[.val (.int p1), .val (.int p2), .val (.int p3), .val (.int p4), .val (.ref b20), .val (.ref b25), .val (.int (own_start p2)), .unset, .unset, .unset, .unset, .unset, .unset, .unset, .unset, .unset] [(.int (own_end p2 p3))])) (fun _ kst => XS.iadd X26.here hx rfl (hb hby at_84) rfl kst) ?_
  refine oS (u' := T26.setTop (mkF m 87 #[.val (.int p1), .val (.int p2), .val (.int p3), .val (.int p4), .val (.ref b20), .val (.ref b25), .val (.int (own_start p2)), .val (.int (own_end p2 p3)), .unset, .unset, .unset, .unset, .unset, .unset, .unset, .unset] [])) (fun _ kst => XS.istore X26.here hx rfl (hb hby at_85) rfl (l' := #[.val (.int p1), .val (.int p2), .val (.int p3), .val (.int p4), .val (.ref b20), .val (.ref b25), .val (.int (own_start p2)), .val (.int (own_end p2 p3)), .unset, .unset, .unset, .unset, .unset, .unset, .unset, .unset]) rfl kst) ?_
  refine oS (u' := T26.setTop (mkF m 88 #[.val (.int p1), .val (.int p2), .val (.int p3), .val (.int p4), .val (.ref b20), .val (.ref b25), .val (.int (own_start p2)), .val (.int (own_end p2 p3)), .unset, .unset, .unset, .unset, .unset, .unset, .unset, .unset] [(.int p4)])) (fun _ kst => XS.iloadN X26.here hx rfl (hb hby at_87) rfl kst) ?_
  refine oS (u' := T26.setTop (mkF m 91 #[.val (.int p1), .val (.int p2), .val (.int p3), .val (.int p4), .val (.ref b20), .val (.ref b25), .val (.int (own_start p2)), .val (.int (own_end p2 p3)), .unset, .unset, .unset, .unset, .unset, .unset, .unset, .unset] [(.int (256 : Int32)), (.int p4)])) (fun _ kst => XS.sipush X26.here hx rfl (hb hby at_88) kst) ?_
  refine oS (u' := T26.setTop (mkF m 92 #[.val (.int p1), .val (.int p2), .val (.int p3), .val (.int p4), .val (.ref b20), .val (.ref b25), .val (.int (own_start p2)), .val (.int (own_end p2 p3)), .unset, .unset, .unset, .unset, .unset, .unset, .unset, .unset] [(.int (p4 &&& (256 : Int32)))])) (fun _ kst => XS.iand X26.here hx rfl (hb hby at_91) rfl kst) ?_
  have km31 : ∀ tgt, Steps p.tables e below (T26.setTop (mkF m 119 #[.val (.int p1), .val (.int p2), .val (.int p3), .val (.int p4), .val (.ref b20), .val (.ref b25), .val (.int (own_start p2)), .val (.int (own_end p2 p3)), .val (.int (if (p4 &&& (256 : Int32)) = (0 : Int32) then (own_c p4) else (if (own_start p2) < (4 : Int32) then (own_t p1 (own_S p2)) else (own_c p4)))), .unset, .unset, .unset, .unset, .unset, .unset, .unset] [])) tgt → Steps p.tables e below (T26.setTop (mkF m 92 #[.val (.int p1), .val (.int p2), .val (.int p3), .val (.int p4), .val (.ref b20), .val (.ref b25), .val (.int (own_start p2)), .val (.int (own_end p2 p3)), .unset, .unset, .unset, .unset, .unset, .unset, .unset, .unset] [(.int (p4 &&& (256 : Int32)))])) tgt := by
    intro tgt kst
    by_cases hc28 : (p4 &&& (256 : Int32)) = (0 : Int32)
    · rw [show (if (p4 &&& (256 : Int32)) = (0 : Int32) then (own_c p4) else (if (own_start p2) < (4 : Int32) then (own_t p1 (own_S p2)) else (own_c p4))) = (own_c p4) from if_pos hc28] at kst
      refine XS.ifYes X26.here hx rfl (pc0 := 92) (pc' := 111) rfl (hb hby at_92) rfl ((if0 _ _).trans (teq hc28).1) (by decide) (by decide) ?_
      show Steps p.tables e below (T26.setTop (mkF m 111 #[.val (.int p1), .val (.int p2), .val (.int p3), .val (.int p4), .val (.ref b20), .val (.ref b25), .val (.int (own_start p2)), .val (.int (own_end p2 p3)), .unset, .unset, .unset, .unset, .unset, .unset, .unset, .unset] [])) _
      refine XS.iloadN X26.here hx rfl (hb hby at_111) rfl ?_
      show Steps p.tables e below (T26.setTop (mkF m 112 #[.val (.int p1), .val (.int p2), .val (.int p3), .val (.int p4), .val (.ref b20), .val (.ref b25), .val (.int (own_start p2)), .val (.int (own_end p2 p3)), .unset, .unset, .unset, .unset, .unset, .unset, .unset, .unset] [(.int p4)])) _
      refine XS.sipush X26.here hx rfl (hb hby at_112) ?_
      show Steps p.tables e below (T26.setTop (mkF m 115 #[.val (.int p1), .val (.int p2), .val (.int p3), .val (.int p4), .val (.ref b20), .val (.ref b25), .val (.int (own_start p2)), .val (.int (own_end p2 p3)), .unset, .unset, .unset, .unset, .unset, .unset, .unset, .unset] [(.int (255 : Int32)), (.int p4)])) _
      refine XS.iand X26.here hx rfl (hb hby at_115) rfl ?_
      show Steps p.tables e below (T26.setTop (mkF m 116 #[.val (.int p1), .val (.int p2), .val (.int p3), .val (.int p4), .val (.ref b20), .val (.ref b25), .val (.int (own_start p2)), .val (.int (own_end p2 p3)), .unset, .unset, .unset, .unset, .unset, .unset, .unset, .unset] [(.int (p4 &&& (255 : Int32)))])) _
      refine XS.i2c X26.here hx rfl (hb hby at_116) rfl ?_
      show Steps p.tables e below (T26.setTop (mkF m 117 #[.val (.int p1), .val (.int p2), .val (.int p3), .val (.int p4), .val (.ref b20), .val (.ref b25), .val (.int (own_start p2)), .val (.int (own_end p2 p3)), .unset, .unset, .unset, .unset, .unset, .unset, .unset, .unset] [(.int (own_c p4))])) _
      refine XS.istore X26.here hx rfl (hb hby at_117) rfl (l' := #[.val (.int p1), .val (.int p2), .val (.int p3), .val (.int p4), .val (.ref b20), .val (.ref b25), .val (.int (own_start p2)), .val (.int (own_end p2 p3)), .val (.int (own_c p4)), .unset, .unset, .unset, .unset, .unset, .unset, .unset]) rfl ?_
      show Steps p.tables e below (T26.setTop (mkF m 119 #[.val (.int p1), .val (.int p2), .val (.int p3), .val (.int p4), .val (.ref b20), .val (.ref b25), .val (.int (own_start p2)), .val (.int (own_end p2 p3)), .val (.int (own_c p4)), .unset, .unset, .unset, .unset, .unset, .unset, .unset] [])) _
      exact kst
    · rw [show (if (p4 &&& (256 : Int32)) = (0 : Int32) then (own_c p4) else (if (own_start p2) < (4 : Int32) then (own_t p1 (own_S p2)) else (own_c p4))) = (if (own_start p2) < (4 : Int32) then (own_t p1 (own_S p2)) else (own_c p4)) from if_neg hc28] at kst
      refine XS.ifNo X26.here hx rfl (hb hby at_92) rfl ((if0 _ _).trans (feq hc28).1) ?_
      show Steps p.tables e below (T26.setTop (mkF m 95 #[.val (.int p1), .val (.int p2), .val (.int p3), .val (.int p4), .val (.ref b20), .val (.ref b25), .val (.int (own_start p2)), .val (.int (own_end p2 p3)), .unset, .unset, .unset, .unset, .unset, .unset, .unset, .unset] [])) _
      refine XS.iload X26.here hx rfl (hb hby at_95) rfl ?_
      show Steps p.tables e below (T26.setTop (mkF m 97 #[.val (.int p1), .val (.int p2), .val (.int p3), .val (.int p4), .val (.ref b20), .val (.ref b25), .val (.int (own_start p2)), .val (.int (own_end p2 p3)), .unset, .unset, .unset, .unset, .unset, .unset, .unset, .unset] [(.int (own_start p2))])) _
      refine XS.iconst X26.here hx rfl (hb hby at_97) ?_
      show Steps p.tables e below (T26.setTop (mkF m 98 #[.val (.int p1), .val (.int p2), .val (.int p3), .val (.int p4), .val (.ref b20), .val (.ref b25), .val (.int (own_start p2)), .val (.int (own_end p2 p3)), .unset, .unset, .unset, .unset, .unset, .unset, .unset, .unset] [(.int (4 : Int32)), (.int (own_start p2))])) _
      have km30 : ∀ tgt, Steps p.tables e below (T26.setTop (mkF m 119 #[.val (.int p1), .val (.int p2), .val (.int p3), .val (.int p4), .val (.ref b20), .val (.ref b25), .val (.int (own_start p2)), .val (.int (own_end p2 p3)), .val (.int (if (own_start p2) < (4 : Int32) then (own_t p1 (own_S p2)) else (own_c p4))), .unset, .unset, .unset, .unset, .unset, .unset, .unset] [])) tgt → Steps p.tables e below (T26.setTop (mkF m 98 #[.val (.int p1), .val (.int p2), .val (.int p3), .val (.int p4), .val (.ref b20), .val (.ref b25), .val (.int (own_start p2)), .val (.int (own_end p2 p3)), .unset, .unset, .unset, .unset, .unset, .unset, .unset, .unset] [(.int (4 : Int32)), (.int (own_start p2))])) tgt := by
        intro tgt kst
        by_cases hc29 : (own_start p2) < (4 : Int32)
        · rw [show (if (own_start p2) < (4 : Int32) then (own_t p1 (own_S p2)) else (own_c p4)) = (own_t p1 (own_S p2)) from if_pos hc29] at kst
          refine XS.icmpNo X26.here hx rfl (hb hby at_98) rfl (tlt hc29).2.1 ?_
          show Steps p.tables e below (T26.setTop (mkF m 101 #[.val (.int p1), .val (.int p2), .val (.int p3), .val (.int p4), .val (.ref b20), .val (.ref b25), .val (.int (own_start p2)), .val (.int (own_end p2 p3)), .unset, .unset, .unset, .unset, .unset, .unset, .unset, .unset] [])) _
          refine XS.aload X26.here hx rfl (hb hby at_101) rfl rfl ?_
          show Steps p.tables e below (T26.setTop (mkF m 103 #[.val (.int p1), .val (.int p2), .val (.int p3), .val (.int p4), .val (.ref b20), .val (.ref b25), .val (.int (own_start p2)), .val (.int (own_end p2 p3)), .unset, .unset, .unset, .unset, .unset, .unset, .unset, .unset] [(.ref b20)])) _
          refine XS.iload X26.here hx rfl (hb hby at_103) rfl ?_
          show Steps p.tables e below (T26.setTop (mkF m 105 #[.val (.int p1), .val (.int p2), .val (.int p3), .val (.int p4), .val (.ref b20), .val (.ref b25), .val (.int (own_start p2)), .val (.int (own_end p2 p3)), .unset, .unset, .unset, .unset, .unset, .unset, .unset, .unset] [(.int (own_start p2)), (.ref b20)])) _
          refine own_ldC X26 hx hZ rfl V27 (k := (own_S p2)) (v := (.int (own_t p1 (own_S p2)))) (own_start_int p2) (own_S4 p2 hc29) rfl (g := (mkF m 105 #[.val (.int p1), .val (.int p2), .val (.int p3), .val (.int p4), .val (.ref b20), .val (.ref b25), .val (.int (own_start p2)), .val (.int (own_end p2 p3)), .unset, .unset, .unset, .unset, .unset, .unset, .unset, .unset] [(.int (own_start p2)), (.ref b20)])) rfl rfl (hb hby at_105) _ ?_
          show Steps p.tables e below (T26.setTop (mkF m 106 #[.val (.int p1), .val (.int p2), .val (.int p3), .val (.int p4), .val (.ref b20), .val (.ref b25), .val (.int (own_start p2)), .val (.int (own_end p2 p3)), .unset, .unset, .unset, .unset, .unset, .unset, .unset, .unset] [(.int (own_t p1 (own_S p2)))])) _
          refine XS.istore X26.here hx rfl (hb hby at_106) rfl (l' := #[.val (.int p1), .val (.int p2), .val (.int p3), .val (.int p4), .val (.ref b20), .val (.ref b25), .val (.int (own_start p2)), .val (.int (own_end p2 p3)), .val (.int (own_t p1 (own_S p2))), .unset, .unset, .unset, .unset, .unset, .unset, .unset]) rfl ?_
          show Steps p.tables e below (T26.setTop (mkF m 108 #[.val (.int p1), .val (.int p2), .val (.int p3), .val (.int p4), .val (.ref b20), .val (.ref b25), .val (.int (own_start p2)), .val (.int (own_end p2 p3)), .val (.int (own_t p1 (own_S p2))), .unset, .unset, .unset, .unset, .unset, .unset, .unset] [])) _
          refine XS.goto X26.here hx rfl (pc0 := 108) (pc' := 119) rfl (hb hby at_108) (by decide) (by decide) ?_
          show Steps p.tables e below (T26.setTop (mkF m 119 #[.val (.int p1), .val (.int p2), .val (.int p3), .val (.int p4), .val (.ref b20), .val (.ref b25), .val (.int (own_start p2)), .val (.int (own_end p2 p3)), .val (.int (own_t p1 (own_S p2))), .unset, .unset, .unset, .unset, .unset, .unset, .unset] [])) _
          exact kst
        · rw [show (if (own_start p2) < (4 : Int32) then (own_t p1 (own_S p2)) else (own_c p4)) = (own_c p4) from if_neg hc29] at kst
          refine XS.icmpYes X26.here hx rfl (pc0 := 98) (pc' := 111) rfl (hb hby at_98) rfl (flt hc29).2.1 (by decide) (by decide) ?_
          show Steps p.tables e below (T26.setTop (mkF m 111 #[.val (.int p1), .val (.int p2), .val (.int p3), .val (.int p4), .val (.ref b20), .val (.ref b25), .val (.int (own_start p2)), .val (.int (own_end p2 p3)), .unset, .unset, .unset, .unset, .unset, .unset, .unset, .unset] [])) _
          refine XS.iloadN X26.here hx rfl (hb hby at_111) rfl ?_
          show Steps p.tables e below (T26.setTop (mkF m 112 #[.val (.int p1), .val (.int p2), .val (.int p3), .val (.int p4), .val (.ref b20), .val (.ref b25), .val (.int (own_start p2)), .val (.int (own_end p2 p3)), .unset, .unset, .unset, .unset, .unset, .unset, .unset, .unset] [(.int p4)])) _
          refine XS.sipush X26.here hx rfl (hb hby at_112) ?_
          show Steps p.tables e below (T26.setTop (mkF m 115 #[.val (.int p1), .val (.int p2), .val (.int p3), .val (.int p4), .val (.ref b20), .val (.ref b25), .val (.int (own_start p2)), .val (.int (own_end p2 p3)), .unset, .unset, .unset, .unset, .unset, .unset, .unset, .unset] [(.int (255 : Int32)), (.int p4)])) _
          refine XS.iand X26.here hx rfl (hb hby at_115) rfl ?_
          show Steps p.tables e below (T26.setTop (mkF m 116 #[.val (.int p1), .val (.int p2), .val (.int p3), .val (.int p4), .val (.ref b20), .val (.ref b25), .val (.int (own_start p2)), .val (.int (own_end p2 p3)), .unset, .unset, .unset, .unset, .unset, .unset, .unset, .unset] [(.int (p4 &&& (255 : Int32)))])) _
          refine XS.i2c X26.here hx rfl (hb hby at_116) rfl ?_
          show Steps p.tables e below (T26.setTop (mkF m 117 #[.val (.int p1), .val (.int p2), .val (.int p3), .val (.int p4), .val (.ref b20), .val (.ref b25), .val (.int (own_start p2)), .val (.int (own_end p2 p3)), .unset, .unset, .unset, .unset, .unset, .unset, .unset, .unset] [(.int (own_c p4))])) _
          refine XS.istore X26.here hx rfl (hb hby at_117) rfl (l' := #[.val (.int p1), .val (.int p2), .val (.int p3), .val (.int p4), .val (.ref b20), .val (.ref b25), .val (.int (own_start p2)), .val (.int (own_end p2 p3)), .val (.int (own_c p4)), .unset, .unset, .unset, .unset, .unset, .unset, .unset]) rfl ?_
          show Steps p.tables e below (T26.setTop (mkF m 119 #[.val (.int p1), .val (.int p2), .val (.int p3), .val (.int p4), .val (.ref b20), .val (.ref b25), .val (.int (own_start p2)), .val (.int (own_end p2 p3)), .val (.int (own_c p4)), .unset, .unset, .unset, .unset, .unset, .unset, .unset] [])) _
          exact kst
      refine km30 _ ?_
      show Steps p.tables e below (T26.setTop (mkF m 119 #[.val (.int p1), .val (.int p2), .val (.int p3), .val (.int p4), .val (.ref b20), .val (.ref b25), .val (.int (own_start p2)), .val (.int (own_end p2 p3)), .val (.int (if (own_start p2) < (4 : Int32) then (own_t p1 (own_S p2)) else (own_c p4))), .unset, .unset, .unset, .unset, .unset, .unset, .unset] [])) _
      exact kst
  refine oS (u' := T26.setTop (mkF m 119 #[.val (.int p1), .val (.int p2), .val (.int p3), .val (.int p4), .val (.ref b20), .val (.ref b25), .val (.int (own_start p2)), .val (.int (own_end p2 p3)), .val (.int (own_w p1 p2 p4)), .unset, .unset, .unset, .unset, .unset, .unset, .unset] [])) km31 ?_
  obtain ⟨T32, h32, X32, e32, E32, A32, D32, -, st32⟩ := newO X26 hx hZ hown (hw _ (List.mem_of_getElem? (i := 31) rfl)) (hw _ (List.mem_of_getElem? (i := 32) rfl)) (hw _ (List.mem_of_getElem? (i := 33) rfl)) rfl (g := (mkF m 119 #[.val (.int p1), .val (.int p2), .val (.int p3), .val (.int p4), .val (.ref b20), .val (.ref b25), .val (.int (own_start p2)), .val (.int (own_end p2 p3)), .val (.int (own_w p1 p2 p4)), .unset, .unset, .unset, .unset, .unset, .unset, .unset] [])) rfl (hb hby at_119) (by decide) (by decide)
  obtain ⟨b32, g32⟩ : ∃ z, z = T26.heap.size := ⟨_, rfl⟩
  rw [← g32] at A32 D32 st32
  have ne_b20_b32 : b20 ≠ b32 := Nat.ne_of_lt (Nat.lt_of_lt_of_le (V27).lt (Nat.le_of_eq g32.symm))
  have ne_b25_b32 : b25 ≠ b32 := Nat.ne_of_lt (Nat.lt_of_lt_of_le (f26_E_b25).lt (Nat.le_of_eq g32.symm))
  have ne_t26_b32 : t26 ≠ b32 := Nat.ne_of_lt (Nat.lt_of_lt_of_le (Bq26).lt (Nat.le_of_eq g32.symm))
  have f32_A_b20 := V27.ext E32
  have f32_E_b25 := f26_E_b25.ext E32
  have f32_F_b25_coder := Cq26.ext E32
  have f32_F_b25_value := Vq26.ext E32
  have f32_V_t26 := Bq26.ext E32
  have gb_b32 : n0 ≤ b32 := Nat.le_trans Z26 (Nat.le_of_eq g32.symm)
  have sz_b32 : h0.size ≤ b32 := Nat.le_trans K26.1 (Nat.le_of_eq g32.symm)
  have K32 := K26.ext E32
  have Z32 := Nat.le_trans Z26 E32.1
  have f32_F_m_nLine : Fld Z h32 b32 "com/example/predicant/predicant/format/Cursor" "m_nLine" "I" (.int (0 : Int32)) := D32 (Or.inr (hw _ (List.mem_of_getElem? (i := 39) rfl))) (ty := .int) (by decide)
  have f32_F_m_sText : Fld Z h32 b32 "com/example/predicant/predicant/format/Cursor" "m_sText" "Ljava/lang/String;" .null := D32 (Or.inr (hw _ (List.mem_of_getElem? (i := 41) rfl))) (ty := (.object "java/lang/String")) (by decide)
  have f32_F_m_nPosition : Fld Z h32 b32 "com/example/predicant/predicant/format/Cursor" "m_nPosition" "I" (.int (0 : Int32)) := D32 (Or.inl (hw _ (List.mem_of_getElem? (i := 43) rfl))) (ty := .int) (by decide)
  have f32_F_m_nEnd : Fld Z h32 b32 "com/example/predicant/predicant/format/Cursor" "m_nEnd" "I" (.int (0 : Int32)) := D32 (Or.inr (hw _ (List.mem_of_getElem? (i := 45) rfl))) (ty := .int) (by decide)
  refine oS (u' := T32.setTop (mkF m 122 #[.val (.int p1), .val (.int p2), .val (.int p3), .val (.int p4), .val (.ref b20), .val (.ref b25), .val (.int (own_start p2)), .val (.int (own_end p2 p3)), .val (.int (own_w p1 p2 p4)), .unset, .unset, .unset, .unset, .unset, .unset, .unset] [(.ref b32)])) st32 ?_
  refine oS (u' := T32.setTop (mkF m 123 #[.val (.int p1), .val (.int p2), .val (.int p3), .val (.int p4), .val (.ref b20), .val (.ref b25), .val (.int (own_start p2)), .val (.int (own_end p2 p3)), .val (.int (own_w p1 p2 p4)), .unset, .unset, .unset, .unset, .unset, .unset, .unset] [(.ref b32), (.ref b32)])) (fun _ kst => XS.dup X32.here hx rfl (hb hby at_122) rfl rfl kst) ?_
  refine oS (u' := T32.setTop (mkF m 124 #[.val (.int p1), .val (.int p2), .val (.int p3), .val (.int p4), .val (.ref b20), .val (.ref b25), .val (.int (own_start p2)), .val (.int (own_end p2 p3)), .val (.int (own_w p1 p2 p4)), .unset, .unset, .unset, .unset, .unset, .unset, .unset] [(.int p4), (.ref b32), (.ref b32)])) (fun _ kst => XS.iloadN X32.here hx rfl (hb hby at_123) rfl kst) ?_
  refine oS (u' := T32.setTop (mkF m 126 #[.val (.int p1), .val (.int p2), .val (.int p3), .val (.int p4), .val (.ref b20), .val (.ref b25), .val (.int (own_start p2)), .val (.int (own_end p2 p3)), .val (.int (own_w p1 p2 p4)), .unset, .unset, .unset, .unset, .unset, .unset, .unset] [(.ref b25), (.int p4), (.ref b32), (.ref b32)])) (fun _ kst => XS.aload X32.here hx rfl (hb hby at_124) rfl rfl kst) ?_
  refine oS (u' := T32.setTop (mkF m 128 #[.val (.int p1), .val (.int p2), .val (.int p3), .val (.int p4), .val (.ref b20), .val (.ref b25), .val (.int (own_start p2)), .val (.int (own_end p2 p3)), .val (.int (own_w p1 p2 p4)), .unset, .unset, .unset, .unset, .unset, .unset, .unset] [(.int (own_start p2)), (.ref b25), (.int p4), (.ref b32), (.ref b32)])) (fun _ kst => XS.iload X32.here hx rfl (hb hby at_126) rfl kst) ?_
  refine oS (u' := T32.setTop (mkF m 130 #[.val (.int p1), .val (.int p2), .val (.int p3), .val (.int p4), .val (.ref b20), .val (.ref b25), .val (.int (own_start p2)), .val (.int (own_end p2 p3)), .val (.int (own_w p1 p2 p4)), .unset, .unset, .unset, .unset, .unset, .unset, .unset] [(.int (own_end p2 p3)), (.int (own_start p2)), (.ref b25), (.int p4), (.ref b32), (.ref b32)])) (fun _ kst => XS.iload X32.here hx rfl (hb hby at_128) rfl kst) ?_
  obtain ⟨v33, T33, L33, X33, hQ33, st33⟩ := own_callI X32 hx hZ (y := (⟨"com/example/predicant/predicant/format/Cursor", "<init>", "(ILjava/lang/String;II)V"⟩ : MethodName)) rfl hown (hw _ (List.mem_of_getElem? (i := 34) rfl)) (hw _ (List.mem_of_getElem? (i := 35) rfl)) (hw _ (List.mem_of_getElem? (i := 36) rfl)) (hw _ (List.mem_of_getElem? (i := 33) rfl)) (by decide) e32 (W := 1) (own_rm_cinit l Z a0 hw b32 p4 b25 (own_start p2) (own_end p2 p3) h32 n0 Z32 A32 f32_F_m_nLine f32_F_m_sText f32_F_m_nPosition f32_F_m_nEnd gb_b32) (by decide) (by decide) (g := (mkF m 130 #[.val (.int p1), .val (.int p2), .val (.int p3), .val (.int p4), .val (.ref b20), .val (.ref b25), .val (.int (own_start p2)), .val (.int (own_end p2 p3)), .val (.int (own_w p1 p2 p4)), .unset, .unset, .unset, .unset, .unset, .unset, .unset] [(.int (own_end p2 p3)), (.int (own_start p2)), (.ref b25), (.int p4), (.ref b32), (.ref b32)])) rfl (by rw [hml]; rfl) (a := b32) (argsL := [(.int p4), (.ref b25), (.int (own_start p2)), (.int (own_end p2 p3))]) (rest := [(.ref b32)]) (lenOf own_pd5 rfl) rfl (by show 2 * 0 + _ ≤ _; exact Nat.le_of_eq rfl) (hb hby at_130) (by decide) (by decide)
  obtain ⟨rfl, Nq33, Kq33, Ft33, Fp33, Fe33⟩ := hQ33
  have f33_A_b20 := f32_A_b20.keep Kq33 (ninS ne_b20_b32 nin0)
  have f33_E_b25 := f32_E_b25.keep Kq33
  have f33_F_b25_coder := f32_F_b25_coder.keep Kq33 (ninS ne_b25_b32 nin0)
  have f33_F_b25_value := f32_F_b25_value.keep Kq33 (ninS ne_b25_b32 nin0)
  have f33_V_t26 := f32_V_t26.keep Kq33 (ninS ne_t26_b32 nin0)
  have f33_E_b32 := A32.keep Kq33
  have K33 := K32.trans Kq33 (allS (Or.inr sz_b32) all0)
  have Z33 := Nat.le_trans Z32 Kq33.1
  have N33 := Fr.app N26 Nq33
  refine oS (u' := T33.setTop (mkF m 133 #[.val (.int p1), .val (.int p2), .val (.int p3), .val (.int p4), .val (.ref b20), .val (.ref b25), .val (.int (own_start p2)), .val (.int (own_end p2 p3)), .val (.int (own_w p1 p2 p4)), .unset, .unset, .unset, .unset, .unset, .unset, .unset] [(.ref b32)])) st33 ?_
  refine oS (u' := T33.setTop (mkF m 135 #[.val (.int p1), .val (.int p2), .val (.int p3), .val (.int p4), .val (.ref b20), .val (.ref b25), .val (.int (own_start p2)), .val (.int (own_end p2 p3)), .val (.int (own_w p1 p2 p4)), .val (.ref b32), .unset, .unset, .unset, .unset, .unset, .unset] [])) (fun _ kst => XS.astore X33.here hx rfl (hb hby at_133) rfl rfl (l' := #[.val (.int p1), .val (.int p2), .val (.int p3), .val (.int p4), .val (.ref b20), .val (.ref b25), .val (.int (own_start p2)), .val (.int (own_end p2 p3)), .val (.int (own_w p1 p2 p4)), .val (.ref b32), .unset, .unset, .unset, .unset, .unset, .unset]) rfl kst) ?_
  refine oS (u' := T33.setTop (mkF m 137 #[.val (.int p1), .val (.int p2), .val (.int p3), .val (.int p4), .val (.ref b20), .val (.ref b25), .val (.int (own_start p2)), .val (.int (own_end p2 p3)), .val (.int (own_w p1 p2 p4)), .val (.ref b32), .unset, .unset, .unset, .unset, .unset, .unset] [(.ref b32)])) (fun _ kst => XS.aload X33.here hx rfl (hb hby at_135) rfl rfl kst) ?_
  obtain ⟨T34, X34, e34, st34⟩ := own_callVP X33 hx hZ (y := (⟨"com/example/predicant/predicant/format/Cursor", "atEnd", "()Z"⟩ : MethodName)) (z := (⟨"com/example/predicant/predicant/format/Cursor", "atEnd", "()Z"⟩ : MethodName)) hown (hw _ (List.mem_of_getElem? (i := 46) rfl)) (hw _ (List.mem_of_getElem? (i := 47) rfl)) (notFace_of_selects (args := #[]) (mvT hZ (hw _ (List.mem_of_getElem? (i := 49) rfl)))) (hw _ (List.mem_of_getElem? (i := 49) rfl)) (hw _ (List.mem_of_getElem? (i := 48) rfl)) (by decide) rfl f33_E_b32 (W := 0) (own_rm_ae l Z a0 hw b32 (own_start p2) (own_end p2 p3) T33.heap Fp33 Fe33) (hw _ (List.mem_of_getElem? (i := 50) rfl)) (hw _ (List.mem_of_getElem? (i := 33) rfl)) (by decide) (by decide) (g := (mkF m 137 #[.val (.int p1), .val (.int p2), .val (.int p3), .val (.int p4), .val (.ref b20), .val (.ref b25), .val (.int (own_start p2)), .val (.int (own_end p2 p3)), .val (.int (own_w p1 p2 p4)), .val (.ref b32), .unset, .unset, .unset, .unset, .unset, .unset] [(.ref b32)])) rfl (by rw [hml]; rfl) (b := b32) (argsL := []) (rest := []) (lenOf own_pd1 rfl) rfl (by show 2 * 0 + _ ≤ _; exact Nat.le_of_eq rfl) (hb hby at_137) (by decide) (by decide)
  refine oS (u' := T34.setTop (mkF m 140 #[.val (.int p1), .val (.int p2), .val (.int p3), .val (.int p4), .val (.ref b20), .val (.ref b25), .val (.int (own_start p2)), .val (.int (own_end p2 p3)), .val (.int (own_w p1 p2 p4)), .val (.ref b32), .unset, .unset, .unset, .unset, .unset, .unset] [(.int (own_ae b32 (own_start p2) (own_end p2 p3)))])) st34 ?_
  refine oS (u' := T34.setTop (mkF m 142 #[.val (.int p1), .val (.int p2), .val (.int p3), .val (.int p4), .val (.ref b20), .val (.ref b25), .val (.int (own_start p2)), .val (.int (own_end p2 p3)), .val (.int (own_w p1 p2 p4)), .val (.ref b32), .unset, .unset, .unset, .unset, .unset, .unset] [(.int (own_start p2)), (.int (own_ae b32 (own_start p2) (own_end p2 p3)))])) (fun _ kst => XS.iload X34.here hx rfl (hb hby at_140) rfl kst) ?_
  refine oS (u' := T34.setTop (mkF m 144 #[.val (.int p1), .val (.int p2), .val (.int p3), .val (.int p4), .val (.ref b20), .val (.ref b25), .val (.int (own_start p2)), .val (.int (own_end p2 p3)), .val (.int (own_w p1 p2 p4)), .val (.ref b32), .unset, .unset, .unset, .unset, .unset, .unset] [(.int (own_end p2 p3)), (.int (own_start p2)), (.int (own_ae b32 (own_start p2) (own_end p2 p3)))])) (fun _ kst => XS.iload X34.here hx rfl (hb hby at_142) rfl kst) ?_
  have km36 : ∀ tgt, Steps p.tables e below (T34.setTop (mkF m 152 #[.val (.int p1), .val (.int p2), .val (.int p3), .val (.int p4), .val (.ref b20), .val (.ref b25), .val (.int (own_start p2)), .val (.int (own_end p2 p3)), .val (.int (own_w p1 p2 p4)), .val (.ref b32), .unset, .unset, .unset, .unset, .unset, .unset] [(.int (if (own_start p2) = (own_end p2 p3) then (1 : Int32) else (0 : Int32))), (.int (own_ae b32 (own_start p2) (own_end p2 p3)))])) tgt → Steps p.tables e below (T34.setTop (mkF m 144 #[.val (.int p1), .val (.int p2), .val (.int p3), .val (.int p4), .val (.ref b20), .val (.ref b25), .val (.int (own_start p2)), .val (.int (own_end p2 p3)), .val (.int (own_w p1 p2 p4)), .val (.ref b32), .unset, .unset, .unset, .unset, .unset, .unset] [(.int (own_end p2 p3)), (.int (own_start p2)), (.int (own_ae b32 (own_start p2) (own_end p2 p3)))])) tgt := by
    intro tgt kst
    by_cases hc35 : (own_start p2) = (own_end p2 p3)
    · rw [show (if (own_start p2) = (own_end p2 p3) then (1 : Int32) else (0 : Int32)) = (1 : Int32) from if_pos hc35] at kst
      refine XS.icmpNo X34.here hx rfl (hb hby at_144) rfl (teq hc35).2 ?_
      show Steps p.tables e below (T34.setTop (mkF m 147 #[.val (.int p1), .val (.int p2), .val (.int p3), .val (.int p4), .val (.ref b20), .val (.ref b25), .val (.int (own_start p2)), .val (.int (own_end p2 p3)), .val (.int (own_w p1 p2 p4)), .val (.ref b32), .unset, .unset, .unset, .unset, .unset, .unset] [(.int (own_ae b32 (own_start p2) (own_end p2 p3)))])) _
      refine XS.iconst X34.here hx rfl (hb hby at_147) ?_
      show Steps p.tables e below (T34.setTop (mkF m 148 #[.val (.int p1), .val (.int p2), .val (.int p3), .val (.int p4), .val (.ref b20), .val (.ref b25), .val (.int (own_start p2)), .val (.int (own_end p2 p3)), .val (.int (own_w p1 p2 p4)), .val (.ref b32), .unset, .unset, .unset, .unset, .unset, .unset] [(.int (1 : Int32)), (.int (own_ae b32 (own_start p2) (own_end p2 p3)))])) _
      refine XS.goto X34.here hx rfl (pc0 := 148) (pc' := 152) rfl (hb hby at_148) (by decide) (by decide) ?_
      show Steps p.tables e below (T34.setTop (mkF m 152 #[.val (.int p1), .val (.int p2), .val (.int p3), .val (.int p4), .val (.ref b20), .val (.ref b25), .val (.int (own_start p2)), .val (.int (own_end p2 p3)), .val (.int (own_w p1 p2 p4)), .val (.ref b32), .unset, .unset, .unset, .unset, .unset, .unset] [(.int (1 : Int32)), (.int (own_ae b32 (own_start p2) (own_end p2 p3)))])) _
      exact kst
    · rw [show (if (own_start p2) = (own_end p2 p3) then (1 : Int32) else (0 : Int32)) = (0 : Int32) from if_neg hc35] at kst
      refine XS.icmpYes X34.here hx rfl (pc0 := 144) (pc' := 151) rfl (hb hby at_144) rfl (feq hc35).2 (by decide) (by decide) ?_
      show Steps p.tables e below (T34.setTop (mkF m 151 #[.val (.int p1), .val (.int p2), .val (.int p3), .val (.int p4), .val (.ref b20), .val (.ref b25), .val (.int (own_start p2)), .val (.int (own_end p2 p3)), .val (.int (own_w p1 p2 p4)), .val (.ref b32), .unset, .unset, .unset, .unset, .unset, .unset] [(.int (own_ae b32 (own_start p2) (own_end p2 p3)))])) _
      refine XS.iconst X34.here hx rfl (hb hby at_151) ?_
      show Steps p.tables e below (T34.setTop (mkF m 152 #[.val (.int p1), .val (.int p2), .val (.int p3), .val (.int p4), .val (.ref b20), .val (.ref b25), .val (.int (own_start p2)), .val (.int (own_end p2 p3)), .val (.int (own_w p1 p2 p4)), .val (.ref b32), .unset, .unset, .unset, .unset, .unset, .unset] [(.int (0 : Int32)), (.int (own_ae b32 (own_start p2) (own_end p2 p3)))])) _
      exact kst
  refine oS (u' := T34.setTop (mkF m 152 #[.val (.int p1), .val (.int p2), .val (.int p3), .val (.int p4), .val (.ref b20), .val (.ref b25), .val (.int (own_start p2)), .val (.int (own_end p2 p3)), .val (.int (own_w p1 p2 p4)), .val (.ref b32), .unset, .unset, .unset, .unset, .unset, .unset] [(.int (if (own_start p2) = (own_end p2 p3) then (1 : Int32) else (0 : Int32))), (.int (own_ae b32 (own_start p2) (own_end p2 p3)))])) km36 ?_
  refine oS (u' := T34.setTop (mkF m 155 #[.val (.int p1), .val (.int p2), .val (.int p3), .val (.int p4), .val (.ref b20), .val (.ref b25), .val (.int (own_start p2)), .val (.int (own_end p2 p3)), .val (.int (own_w p1 p2 p4)), .val (.ref b32), .unset, .unset, .unset, .unset, .unset, .unset] [])) (fun _ kst => XS.icmpNo X34.here hx rfl (hb hby at_152) rfl (teq (own_ae_eq _ _ _)).2 kst) ?_
  refine oS (u' := T34.setTop (mkF m 156 #[.val (.int p1), .val (.int p2), .val (.int p3), .val (.int p4), .val (.ref b20), .val (.ref b25), .val (.int (own_start p2)), .val (.int (own_end p2 p3)), .val (.int (own_w p1 p2 p4)), .val (.ref b32), .unset, .unset, .unset, .unset, .unset, .unset] [(.int (1 : Int32))])) (fun _ kst => XS.iconst X34.here hx rfl (hb hby at_155) kst) ?_
  refine oS (u' := T34.setTop (mkF m 160 #[.val (.int p1), .val (.int p2), .val (.int p3), .val (.int p4), .val (.ref b20), .val (.ref b25), .val (.int (own_start p2)), .val (.int (own_end p2 p3)), .val (.int (own_w p1 p2 p4)), .val (.ref b32), .unset, .unset, .unset, .unset, .unset, .unset] [(.int (1 : Int32))])) (fun _ kst => XS.goto X34.here hx rfl (pc0 := 156) (pc' := 160) rfl (hb hby at_156) (by decide) (by decide) kst) ?_
  refine oS (u' := T34.setTop (mkF m 162 #[.val (.int p1), .val (.int p2), .val (.int p3), .val (.int p4), .val (.ref b20), .val (.ref b25), .val (.int (own_start p2)), .val (.int (own_end p2 p3)), .val (.int (own_w p1 p2 p4)), .val (.ref b32), .val (.int (1 : Int32)), .unset, .unset, .unset, .unset, .unset] [])) (fun _ kst => XS.istore X34.here hx rfl (hb hby at_160) rfl (l' := #[.val (.int p1), .val (.int p2), .val (.int p3), .val (.int p4), .val (.ref b20), .val (.ref b25), .val (.int (own_start p2)), .val (.int (own_end p2 p3)), .val (.int (own_w p1 p2 p4)), .val (.ref b32), .val (.int (1 : Int32)), .unset, .unset, .unset, .unset, .unset]) rfl kst) ?_
  refine oS (u' := T34.setTop (mkF m 164 #[.val (.int p1), .val (.int p2), .val (.int p3), .val (.int p4), .val (.ref b20), .val (.ref b25), .val (.int (own_start p2)), .val (.int (own_end p2 p3)), .val (.int (own_w p1 p2 p4)), .val (.ref b32), .val (.int (1 : Int32)), .unset, .unset, .unset, .unset, .unset] [(.int (own_start p2))])) (fun _ kst => XS.iload X34.here hx rfl (hb hby at_162) rfl kst) ?_
  refine oS (u' := T34.setTop (mkF m 166 #[.val (.int p1), .val (.int p2), .val (.int p3), .val (.int p4), .val (.ref b20), .val (.ref b25), .val (.int (own_start p2)), .val (.int (own_end p2 p3)), .val (.int (own_w p1 p2 p4)), .val (.ref b32), .val (.int (1 : Int32)), .unset, .unset, .unset, .unset, .unset] [(.int (own_end p2 p3)), (.int (own_start p2))])) (fun _ kst => XS.iload X34.here hx rfl (hb hby at_164) rfl kst) ?_
  have km40 : ∀ tgt, Steps p.tables e below (T34.setTop (mkF m 184 #[.val (.int p1), .val (.int p2), .val (.int p3), .val (.int p4), .val (.ref b20), .val (.ref b25), .val (.int (own_start p2)), .val (.int (own_end p2 p3)), .val (.int (own_w p1 p2 p4)), .val (.ref b32), .val (.int (1 : Int32)), .unset, .unset, .unset, .unset, .unset] [(.int (if (own_start p2) < (own_end p2 p3) then (if (own_t p1 (own_S p2)) = (own_w p1 p2 p4) then (1 : Int32) else (0 : Int32)) else (0 : Int32)))])) tgt → Steps p.tables e below (T34.setTop (mkF m 166 #[.val (.int p1), .val (.int p2), .val (.int p3), .val (.int p4), .val (.ref b20), .val (.ref b25), .val (.int (own_start p2)), .val (.int (own_end p2 p3)), .val (.int (own_w p1 p2 p4)), .val (.ref b32), .val (.int (1 : Int32)), .unset, .unset, .unset, .unset, .unset] [(.int (own_end p2 p3)), (.int (own_start p2))])) tgt := by
    intro tgt kst
    by_cases hc37 : (own_start p2) < (own_end p2 p3)
    · rw [show (if (own_start p2) < (own_end p2 p3) then (if (own_t p1 (own_S p2)) = (own_w p1 p2 p4) then (1 : Int32) else (0 : Int32)) else (0 : Int32)) = (if (own_t p1 (own_S p2)) = (own_w p1 p2 p4) then (1 : Int32) else (0 : Int32)) from if_pos hc37] at kst
      refine XS.icmpNo X34.here hx rfl (hb hby at_166) rfl (tlt hc37).2.1 ?_
      show Steps p.tables e below (T34.setTop (mkF m 169 #[.val (.int p1), .val (.int p2), .val (.int p3), .val (.int p4), .val (.ref b20), .val (.ref b25), .val (.int (own_start p2)), .val (.int (own_end p2 p3)), .val (.int (own_w p1 p2 p4)), .val (.ref b32), .val (.int (1 : Int32)), .unset, .unset, .unset, .unset, .unset] [])) _
      refine XS.aload X34.here hx rfl (hb hby at_169) rfl rfl ?_
      show Steps p.tables e below (T34.setTop (mkF m 171 #[.val (.int p1), .val (.int p2), .val (.int p3), .val (.int p4), .val (.ref b20), .val (.ref b25), .val (.int (own_start p2)), .val (.int (own_end p2 p3)), .val (.int (own_w p1 p2 p4)), .val (.ref b32), .val (.int (1 : Int32)), .unset, .unset, .unset, .unset, .unset] [(.ref b20)])) _
      refine XS.iload X34.here hx rfl (hb hby at_171) rfl ?_
      show Steps p.tables e below (T34.setTop (mkF m 173 #[.val (.int p1), .val (.int p2), .val (.int p3), .val (.int p4), .val (.ref b20), .val (.ref b25), .val (.int (own_start p2)), .val (.int (own_end p2 p3)), .val (.int (own_w p1 p2 p4)), .val (.ref b32), .val (.int (1 : Int32)), .unset, .unset, .unset, .unset, .unset] [(.int (own_start p2)), (.ref b20)])) _
      refine own_ldC X34 hx hZ e34 f33_A_b20 (k := (own_S p2)) (v := (.int (own_t p1 (own_S p2)))) (own_start_int p2) (own_SE4 p2 p3 hc37) rfl (g := (mkF m 173 #[.val (.int p1), .val (.int p2), .val (.int p3), .val (.int p4), .val (.ref b20), .val (.ref b25), .val (.int (own_start p2)), .val (.int (own_end p2 p3)), .val (.int (own_w p1 p2 p4)), .val (.ref b32), .val (.int (1 : Int32)), .unset, .unset, .unset, .unset, .unset] [(.int (own_start p2)), (.ref b20)])) rfl rfl (hb hby at_173) _ ?_
      show Steps p.tables e below (T34.setTop (mkF m 174 #[.val (.int p1), .val (.int p2), .val (.int p3), .val (.int p4), .val (.ref b20), .val (.ref b25), .val (.int (own_start p2)), .val (.int (own_end p2 p3)), .val (.int (own_w p1 p2 p4)), .val (.ref b32), .val (.int (1 : Int32)), .unset, .unset, .unset, .unset, .unset] [(.int (own_t p1 (own_S p2)))])) _
      refine XS.iload X34.here hx rfl (hb hby at_174) rfl ?_
      show Steps p.tables e below (T34.setTop (mkF m 176 #[.val (.int p1), .val (.int p2), .val (.int p3), .val (.int p4), .val (.ref b20), .val (.ref b25), .val (.int (own_start p2)), .val (.int (own_end p2 p3)), .val (.int (own_w p1 p2 p4)), .val (.ref b32), .val (.int (1 : Int32)), .unset, .unset, .unset, .unset, .unset] [(.int (own_w p1 p2 p4)), (.int (own_t p1 (own_S p2)))])) _
      have km39 : ∀ tgt, Steps p.tables e below (T34.setTop (mkF m 184 #[.val (.int p1), .val (.int p2), .val (.int p3), .val (.int p4), .val (.ref b20), .val (.ref b25), .val (.int (own_start p2)), .val (.int (own_end p2 p3)), .val (.int (own_w p1 p2 p4)), .val (.ref b32), .val (.int (1 : Int32)), .unset, .unset, .unset, .unset, .unset] [(.int (if (own_t p1 (own_S p2)) = (own_w p1 p2 p4) then (1 : Int32) else (0 : Int32)))])) tgt → Steps p.tables e below (T34.setTop (mkF m 176 #[.val (.int p1), .val (.int p2), .val (.int p3), .val (.int p4), .val (.ref b20), .val (.ref b25), .val (.int (own_start p2)), .val (.int (own_end p2 p3)), .val (.int (own_w p1 p2 p4)), .val (.ref b32), .val (.int (1 : Int32)), .unset, .unset, .unset, .unset, .unset] [(.int (own_w p1 p2 p4)), (.int (own_t p1 (own_S p2)))])) tgt := by
        intro tgt kst
        by_cases hc38 : (own_t p1 (own_S p2)) = (own_w p1 p2 p4)
        · rw [show (if (own_t p1 (own_S p2)) = (own_w p1 p2 p4) then (1 : Int32) else (0 : Int32)) = (1 : Int32) from if_pos hc38] at kst
          refine XS.icmpNo X34.here hx rfl (hb hby at_176) rfl (teq hc38).2 ?_
          show Steps p.tables e below (T34.setTop (mkF m 179 #[.val (.int p1), .val (.int p2), .val (.int p3), .val (.int p4), .val (.ref b20), .val (.ref b25), .val (.int (own_start p2)), .val (.int (own_end p2 p3)), .val (.int (own_w p1 p2 p4)), .val (.ref b32), .val (.int (1 : Int32)), .unset, .unset, .unset, .unset, .unset] [])) _
          refine XS.iconst X34.here hx rfl (hb hby at_179) ?_
          show Steps p.tables e below (T34.setTop (mkF m 180 #[.val (.int p1), .val (.int p2), .val (.int p3), .val (.int p4), .val (.ref b20), .val (.ref b25), .val (.int (own_start p2)), .val (.int (own_end p2 p3)), .val (.int (own_w p1 p2 p4)), .val (.ref b32), .val (.int (1 : Int32)), .unset, .unset, .unset, .unset, .unset] [(.int (1 : Int32))])) _
          refine XS.goto X34.here hx rfl (pc0 := 180) (pc' := 184) rfl (hb hby at_180) (by decide) (by decide) ?_
          show Steps p.tables e below (T34.setTop (mkF m 184 #[.val (.int p1), .val (.int p2), .val (.int p3), .val (.int p4), .val (.ref b20), .val (.ref b25), .val (.int (own_start p2)), .val (.int (own_end p2 p3)), .val (.int (own_w p1 p2 p4)), .val (.ref b32), .val (.int (1 : Int32)), .unset, .unset, .unset, .unset, .unset] [(.int (1 : Int32))])) _
          exact kst
        · rw [show (if (own_t p1 (own_S p2)) = (own_w p1 p2 p4) then (1 : Int32) else (0 : Int32)) = (0 : Int32) from if_neg hc38] at kst
          refine XS.icmpYes X34.here hx rfl (pc0 := 176) (pc' := 183) rfl (hb hby at_176) rfl (feq hc38).2 (by decide) (by decide) ?_
          show Steps p.tables e below (T34.setTop (mkF m 183 #[.val (.int p1), .val (.int p2), .val (.int p3), .val (.int p4), .val (.ref b20), .val (.ref b25), .val (.int (own_start p2)), .val (.int (own_end p2 p3)), .val (.int (own_w p1 p2 p4)), .val (.ref b32), .val (.int (1 : Int32)), .unset, .unset, .unset, .unset, .unset] [])) _
          refine XS.iconst X34.here hx rfl (hb hby at_183) ?_
          show Steps p.tables e below (T34.setTop (mkF m 184 #[.val (.int p1), .val (.int p2), .val (.int p3), .val (.int p4), .val (.ref b20), .val (.ref b25), .val (.int (own_start p2)), .val (.int (own_end p2 p3)), .val (.int (own_w p1 p2 p4)), .val (.ref b32), .val (.int (1 : Int32)), .unset, .unset, .unset, .unset, .unset] [(.int (0 : Int32))])) _
          exact kst
      refine km39 _ ?_
      show Steps p.tables e below (T34.setTop (mkF m 184 #[.val (.int p1), .val (.int p2), .val (.int p3), .val (.int p4), .val (.ref b20), .val (.ref b25), .val (.int (own_start p2)), .val (.int (own_end p2 p3)), .val (.int (own_w p1 p2 p4)), .val (.ref b32), .val (.int (1 : Int32)), .unset, .unset, .unset, .unset, .unset] [(.int (if (own_t p1 (own_S p2)) = (own_w p1 p2 p4) then (1 : Int32) else (0 : Int32)))])) _
      exact kst
    · rw [show (if (own_start p2) < (own_end p2 p3) then (if (own_t p1 (own_S p2)) = (own_w p1 p2 p4) then (1 : Int32) else (0 : Int32)) else (0 : Int32)) = (0 : Int32) from if_neg hc37] at kst
      refine XS.icmpYes X34.here hx rfl (pc0 := 166) (pc' := 183) rfl (hb hby at_166) rfl (flt hc37).2.1 (by decide) (by decide) ?_
      show Steps p.tables e below (T34.setTop (mkF m 183 #[.val (.int p1), .val (.int p2), .val (.int p3), .val (.int p4), .val (.ref b20), .val (.ref b25), .val (.int (own_start p2)), .val (.int (own_end p2 p3)), .val (.int (own_w p1 p2 p4)), .val (.ref b32), .val (.int (1 : Int32)), .unset, .unset, .unset, .unset, .unset] [])) _
      refine XS.iconst X34.here hx rfl (hb hby at_183) ?_
      show Steps p.tables e below (T34.setTop (mkF m 184 #[.val (.int p1), .val (.int p2), .val (.int p3), .val (.int p4), .val (.ref b20), .val (.ref b25), .val (.int (own_start p2)), .val (.int (own_end p2 p3)), .val (.int (own_w p1 p2 p4)), .val (.ref b32), .val (.int (1 : Int32)), .unset, .unset, .unset, .unset, .unset] [(.int (0 : Int32))])) _
      exact kst
  refine oS (u' := T34.setTop (mkF m 184 #[.val (.int p1), .val (.int p2), .val (.int p3), .val (.int p4), .val (.ref b20), .val (.ref b25), .val (.int (own_start p2)), .val (.int (own_end p2 p3)), .val (.int (own_w p1 p2 p4)), .val (.ref b32), .val (.int (1 : Int32)), .unset, .unset, .unset, .unset, .unset] [(.int (own_ex p1 p2 p3 p4))])) km40 ?_
  refine oS (u' := T34.setTop (mkF m 186 #[.val (.int p1), .val (.int p2), .val (.int p3), .val (.int p4), .val (.ref b20), .val (.ref b25), .val (.int (own_start p2)), .val (.int (own_end p2 p3)), .val (.int (own_w p1 p2 p4)), .val (.ref b32), .val (.int (1 : Int32)), .val (.int (own_ex p1 p2 p3 p4)), .unset, .unset, .unset, .unset] [])) (fun _ kst => XS.istore X34.here hx rfl (hb hby at_184) rfl (l' := #[.val (.int p1), .val (.int p2), .val (.int p3), .val (.int p4), .val (.ref b20), .val (.ref b25), .val (.int (own_start p2)), .val (.int (own_end p2 p3)), .val (.int (own_w p1 p2 p4)), .val (.ref b32), .val (.int (1 : Int32)), .val (.int (own_ex p1 p2 p3 p4)), .unset, .unset, .unset, .unset]) rfl kst) ?_
  refine oS (u' := T34.setTop (mkF m 188 #[.val (.int p1), .val (.int p2), .val (.int p3), .val (.int p4), .val (.ref b20), .val (.ref b25), .val (.int (own_start p2)), .val (.int (own_end p2 p3)), .val (.int (own_w p1 p2 p4)), .val (.ref b32), .val (.int (1 : Int32)), .val (.int (own_ex p1 p2 p3 p4)), .unset, .unset, .unset, .unset] [(.ref b32)])) (fun _ kst => XS.aload X34.here hx rfl (hb hby at_186) rfl rfl kst) ?_
  refine oS (u' := T34.setTop (mkF m 190 #[.val (.int p1), .val (.int p2), .val (.int p3), .val (.int p4), .val (.ref b20), .val (.ref b25), .val (.int (own_start p2)), .val (.int (own_end p2 p3)), .val (.int (own_w p1 p2 p4)), .val (.ref b32), .val (.int (1 : Int32)), .val (.int (own_ex p1 p2 p3 p4)), .unset, .unset, .unset, .unset] [(.int (own_w p1 p2 p4)), (.ref b32)])) (fun _ kst => XS.iload X34.here hx rfl (hb hby at_188) rfl kst) ?_
  obtain ⟨v41, T41, L41, X41, hQ41, st41⟩ := own_callV X34 hx hZ (y := (⟨"com/example/predicant/predicant/format/Cursor", "take", "(C)Z"⟩ : MethodName)) (z := (⟨"com/example/predicant/predicant/format/Cursor", "take", "(C)Z"⟩ : MethodName)) hown (hw _ (List.mem_of_getElem? (i := 51) rfl)) (hw _ (List.mem_of_getElem? (i := 52) rfl)) (notFace_of_selects (args := #[]) (mvT hZ (hw _ (List.mem_of_getElem? (i := 54) rfl)))) (hw _ (List.mem_of_getElem? (i := 54) rfl)) (hw _ (List.mem_of_getElem? (i := 53) rfl)) (by decide) e34 f33_E_b32 (W := 0) (own_rm_take l Z a0 hw b32 (own_w p1 p2 p4) b25 t26 kb26 (own_start p2) (own_end p2 p3) p1 (own_S p2) (own_E p2 p3) G1 G3 T33.heap n0 Z33 f33_E_b32 Ft33 Fp33 Fe33 f33_E_b25 f33_F_b25_value f33_F_b25_coder f33_V_t26 (own_start_of p2) (own_end_of p2 p3) (own_SE p2 p3) (O2.ext (own_kext K33)) P5 (O4.ext (own_kext K33)) rG3 gb_b32 ne_b25_b32 ne_t26_b32) (hw _ (List.mem_of_getElem? (i := 55) rfl)) (hw _ (List.mem_of_getElem? (i := 33) rfl)) (by decide) (by decide) (g := (mkF m 190 #[.val (.int p1), .val (.int p2), .val (.int p3), .val (.int p4), .val (.ref b20), .val (.ref b25), .val (.int (own_start p2)), .val (.int (own_end p2 p3)), .val (.int (own_w p1 p2 p4)), .val (.ref b32), .val (.int (1 : Int32)), .val (.int (own_ex p1 p2 p3 p4)), .unset, .unset, .unset, .unset] [(.int (own_w p1 p2 p4)), (.ref b32)])) rfl (by rw [hml]; rfl) (b := b32) (argsL := [(.int (own_w p1 p2 p4))]) (rest := []) (lenOf own_pd3 rfl) rfl (by show 2 * 0 + _ ≤ _; exact Nat.le_of_eq rfl) (hb hby at_190) (by decide) (by decide)
  obtain ⟨rfl, Nq41, Kq41, Fp41, Fe41⟩ := hQ41
  have f41_A_b20 := f33_A_b20.keep Kq41 (ninS ne_b20_b32 nin0)
  have f41_E_b25 := f33_E_b25.keep Kq41
  have f41_F_b25_coder := f33_F_b25_coder.keep Kq41 (ninS ne_b25_b32 nin0)
  have f41_F_b25_value := f33_F_b25_value.keep Kq41 (ninS ne_b25_b32 nin0)
  have f41_V_t26 := f33_V_t26.keep Kq41 (ninS ne_t26_b32 nin0)
  have f41_E_b32 := f33_E_b32.keep Kq41
  have K41 := K33.trans Kq41 (allS (Or.inr sz_b32) all0)
  have Z41 := Nat.le_trans Z33 Kq41.1
  have N41 := Fr.app N33 Nq41
  refine oS (u' := T41.setTop (mkF m 193 #[.val (.int p1), .val (.int p2), .val (.int p3), .val (.int p4), .val (.ref b20), .val (.ref b25), .val (.int (own_start p2)), .val (.int (own_end p2 p3)), .val (.int (own_w p1 p2 p4)), .val (.ref b32), .val (.int (1 : Int32)), .val (.int (own_ex p1 p2 p3 p4)), .unset, .unset, .unset, .unset] [(.int (own_ia b32 (own_start p2) (own_end p2 p3) (own_t p1 (own_S p2)) (own_w p1 p2 p4)))])) st41 ?_
  refine oS (u' := T41.setTop (mkF m 195 #[.val (.int p1), .val (.int p2), .val (.int p3), .val (.int p4), .val (.ref b20), .val (.ref b25), .val (.int (own_start p2)), .val (.int (own_end p2 p3)), .val (.int (own_w p1 p2 p4)), .val (.ref b32), .val (.int (1 : Int32)), .val (.int (own_ex p1 p2 p3 p4)), .val (.int (own_ia b32 (own_start p2) (own_end p2 p3) (own_t p1 (own_S p2)) (own_w p1 p2 p4))), .unset, .unset, .unset] [])) (fun _ kst => XS.istore X41.here hx rfl (hb hby at_193) rfl (l' := #[.val (.int p1), .val (.int p2), .val (.int p3), .val (.int p4), .val (.ref b20), .val (.ref b25), .val (.int (own_start p2)), .val (.int (own_end p2 p3)), .val (.int (own_w p1 p2 p4)), .val (.ref b32), .val (.int (1 : Int32)), .val (.int (own_ex p1 p2 p3 p4)), .val (.int (own_ia b32 (own_start p2) (own_end p2 p3) (own_t p1 (own_S p2)) (own_w p1 p2 p4))), .unset, .unset, .unset]) rfl kst) ?_
  refine oS (u' := T41.setTop (mkF m 197 #[.val (.int p1), .val (.int p2), .val (.int p3), .val (.int p4), .val (.ref b20), .val (.ref b25), .val (.int (own_start p2)), .val (.int (own_end p2 p3)), .val (.int (own_w p1 p2 p4)), .val (.ref b32), .val (.int (1 : Int32)), .val (.int (own_ex p1 p2 p3 p4)), .val (.int (own_ia b32 (own_start p2) (own_end p2 p3) (own_t p1 (own_S p2)) (own_w p1 p2 p4))), .unset, .unset, .unset] [(.int (own_ex p1 p2 p3 p4))])) (fun _ kst => XS.iload X41.here hx rfl (hb hby at_195) rfl kst) ?_
  have km43 : ∀ tgt, Steps p.tables e below (T41.setTop (mkF m 209 #[.val (.int p1), .val (.int p2), .val (.int p3), .val (.int p4), .val (.ref b20), .val (.ref b25), .val (.int (own_start p2)), .val (.int (own_end p2 p3)), .val (.int (own_w p1 p2 p4)), .val (.ref b32), .val (.int (1 : Int32)), .val (.int (own_ex p1 p2 p3 p4)), .val (.int (own_ia b32 (own_start p2) (own_end p2 p3) (own_t p1 (own_S p2)) (own_w p1 p2 p4))), .unset, .unset, .unset] [(.int (if (own_ex p1 p2 p3 p4) = (0 : Int32) then (own_start p2) else ((own_start p2) + (1 : Int32))))])) tgt → Steps p.tables e below (T41.setTop (mkF m 197 #[.val (.int p1), .val (.int p2), .val (.int p3), .val (.int p4), .val (.ref b20), .val (.ref b25), .val (.int (own_start p2)), .val (.int (own_end p2 p3)), .val (.int (own_w p1 p2 p4)), .val (.ref b32), .val (.int (1 : Int32)), .val (.int (own_ex p1 p2 p3 p4)), .val (.int (own_ia b32 (own_start p2) (own_end p2 p3) (own_t p1 (own_S p2)) (own_w p1 p2 p4))), .unset, .unset, .unset] [(.int (own_ex p1 p2 p3 p4))])) tgt := by
    intro tgt kst
    by_cases hc42 : (own_ex p1 p2 p3 p4) = (0 : Int32)
    · rw [show (if (own_ex p1 p2 p3 p4) = (0 : Int32) then (own_start p2) else ((own_start p2) + (1 : Int32))) = (own_start p2) from if_pos hc42] at kst
      refine XS.ifYes X41.here hx rfl (pc0 := 197) (pc' := 207) rfl (hb hby at_197) rfl ((if0 _ _).trans (teq hc42).1) (by decide) (by decide) ?_
      show Steps p.tables e below (T41.setTop (mkF m 207 #[.val (.int p1), .val (.int p2), .val (.int p3), .val (.int p4), .val (.ref b20), .val (.ref b25), .val (.int (own_start p2)), .val (.int (own_end p2 p3)), .val (.int (own_w p1 p2 p4)), .val (.ref b32), .val (.int (1 : Int32)), .val (.int (own_ex p1 p2 p3 p4)), .val (.int (own_ia b32 (own_start p2) (own_end p2 p3) (own_t p1 (own_S p2)) (own_w p1 p2 p4))), .unset, .unset, .unset] [])) _
      refine XS.iload X41.here hx rfl (hb hby at_207) rfl ?_
      show Steps p.tables e below (T41.setTop (mkF m 209 #[.val (.int p1), .val (.int p2), .val (.int p3), .val (.int p4), .val (.ref b20), .val (.ref b25), .val (.int (own_start p2)), .val (.int (own_end p2 p3)), .val (.int (own_w p1 p2 p4)), .val (.ref b32), .val (.int (1 : Int32)), .val (.int (own_ex p1 p2 p3 p4)), .val (.int (own_ia b32 (own_start p2) (own_end p2 p3) (own_t p1 (own_S p2)) (own_w p1 p2 p4))), .unset, .unset, .unset] [(.int (own_start p2))])) _
      exact kst
    · rw [show (if (own_ex p1 p2 p3 p4) = (0 : Int32) then (own_start p2) else ((own_start p2) + (1 : Int32))) = ((own_start p2) + (1 : Int32)) from if_neg hc42] at kst
      refine XS.ifNo X41.here hx rfl (hb hby at_197) rfl ((if0 _ _).trans (feq hc42).1) ?_
      show Steps p.tables e below (T41.setTop (mkF m 200 #[.val (.int p1), .val (.int p2), .val (.int p3), .val (.int p4), .val (.ref b20), .val (.ref b25), .val (.int (own_start p2)), .val (.int (own_end p2 p3)), .val (.int (own_w p1 p2 p4)), .val (.ref b32), .val (.int (1 : Int32)), .val (.int (own_ex p1 p2 p3 p4)), .val (.int (own_ia b32 (own_start p2) (own_end p2 p3) (own_t p1 (own_S p2)) (own_w p1 p2 p4))), .unset, .unset, .unset] [])) _
      refine XS.iload X41.here hx rfl (hb hby at_200) rfl ?_
      show Steps p.tables e below (T41.setTop (mkF m 202 #[.val (.int p1), .val (.int p2), .val (.int p3), .val (.int p4), .val (.ref b20), .val (.ref b25), .val (.int (own_start p2)), .val (.int (own_end p2 p3)), .val (.int (own_w p1 p2 p4)), .val (.ref b32), .val (.int (1 : Int32)), .val (.int (own_ex p1 p2 p3 p4)), .val (.int (own_ia b32 (own_start p2) (own_end p2 p3) (own_t p1 (own_S p2)) (own_w p1 p2 p4))), .unset, .unset, .unset] [(.int (own_start p2))])) _
      refine XS.iconst X41.here hx rfl (hb hby at_202) ?_
      show Steps p.tables e below (T41.setTop (mkF m 203 #[.val (.int p1), .val (.int p2), .val (.int p3), .val (.int p4), .val (.ref b20), .val (.ref b25), .val (.int (own_start p2)), .val (.int (own_end p2 p3)), .val (.int (own_w p1 p2 p4)), .val (.ref b32), .val (.int (1 : Int32)), .val (.int (own_ex p1 p2 p3 p4)), .val (.int (own_ia b32 (own_start p2) (own_end p2 p3) (own_t p1 (own_S p2)) (own_w p1 p2 p4))), .unset, .unset, .unset] [(.int (1 : Int32)), (.int (own_start p2))])) _
      refine XS.iadd X41.here hx rfl (hb hby at_203) rfl ?_
      show Steps p.tables e below (T41.setTop (mkF m 204 #[.val (.int p1), .val (.int p2), .val (.int p3), .val (.int p4), .val (.ref b20), .val (.ref b25), .val (.int (own_start p2)), .val (.int (own_end p2 p3)), .val (.int (own_w p1 p2 p4)), .val (.ref b32), .val (.int (1 : Int32)), .val (.int (own_ex p1 p2 p3 p4)), .val (.int (own_ia b32 (own_start p2) (own_end p2 p3) (own_t p1 (own_S p2)) (own_w p1 p2 p4))), .unset, .unset, .unset] [(.int ((own_start p2) + (1 : Int32)))])) _
      refine XS.goto X41.here hx rfl (pc0 := 204) (pc' := 209) rfl (hb hby at_204) (by decide) (by decide) ?_
      show Steps p.tables e below (T41.setTop (mkF m 209 #[.val (.int p1), .val (.int p2), .val (.int p3), .val (.int p4), .val (.ref b20), .val (.ref b25), .val (.int (own_start p2)), .val (.int (own_end p2 p3)), .val (.int (own_w p1 p2 p4)), .val (.ref b32), .val (.int (1 : Int32)), .val (.int (own_ex p1 p2 p3 p4)), .val (.int (own_ia b32 (own_start p2) (own_end p2 p3) (own_t p1 (own_S p2)) (own_w p1 p2 p4))), .unset, .unset, .unset] [(.int ((own_start p2) + (1 : Int32)))])) _
      exact kst
  refine oS (u' := T41.setTop (mkF m 209 #[.val (.int p1), .val (.int p2), .val (.int p3), .val (.int p4), .val (.ref b20), .val (.ref b25), .val (.int (own_start p2)), .val (.int (own_end p2 p3)), .val (.int (own_w p1 p2 p4)), .val (.ref b32), .val (.int (1 : Int32)), .val (.int (own_ex p1 p2 p3 p4)), .val (.int (own_ia b32 (own_start p2) (own_end p2 p3) (own_t p1 (own_S p2)) (own_w p1 p2 p4))), .unset, .unset, .unset] [(.int (if (own_ex p1 p2 p3 p4) = (0 : Int32) then (own_start p2) else ((own_start p2) + (1 : Int32))))])) km43 ?_
  refine oS (u' := T41.setTop (mkF m 211 #[.val (.int p1), .val (.int p2), .val (.int p3), .val (.int p4), .val (.ref b20), .val (.ref b25), .val (.int (own_start p2)), .val (.int (own_end p2 p3)), .val (.int (own_w p1 p2 p4)), .val (.ref b32), .val (.int (1 : Int32)), .val (.int (own_ex p1 p2 p3 p4)), .val (.int (own_ia b32 (own_start p2) (own_end p2 p3) (own_t p1 (own_S p2)) (own_w p1 p2 p4))), .val (.int (if (own_ex p1 p2 p3 p4) = (0 : Int32) then (own_start p2) else ((own_start p2) + (1 : Int32)))), .unset, .unset] [])) (fun _ kst => XS.istore X41.here hx rfl (hb hby at_209) rfl (l' := #[.val (.int p1), .val (.int p2), .val (.int p3), .val (.int p4), .val (.ref b20), .val (.ref b25), .val (.int (own_start p2)), .val (.int (own_end p2 p3)), .val (.int (own_w p1 p2 p4)), .val (.ref b32), .val (.int (1 : Int32)), .val (.int (own_ex p1 p2 p3 p4)), .val (.int (own_ia b32 (own_start p2) (own_end p2 p3) (own_t p1 (own_S p2)) (own_w p1 p2 p4))), .val (.int (if (own_ex p1 p2 p3 p4) = (0 : Int32) then (own_start p2) else ((own_start p2) + (1 : Int32)))), .unset, .unset]) rfl kst) ?_
  refine oS (u' := T41.setTop (mkF m 213 #[.val (.int p1), .val (.int p2), .val (.int p3), .val (.int p4), .val (.ref b20), .val (.ref b25), .val (.int (own_start p2)), .val (.int (own_end p2 p3)), .val (.int (own_w p1 p2 p4)), .val (.ref b32), .val (.int (1 : Int32)), .val (.int (own_ex p1 p2 p3 p4)), .val (.int (own_ia b32 (own_start p2) (own_end p2 p3) (own_t p1 (own_S p2)) (own_w p1 p2 p4))), .val (.int (if (own_ex p1 p2 p3 p4) = (0 : Int32) then (own_start p2) else ((own_start p2) + (1 : Int32)))), .unset, .unset] [(.int (own_ia b32 (own_start p2) (own_end p2 p3) (own_t p1 (own_S p2)) (own_w p1 p2 p4)))])) (fun _ kst => XS.iload X41.here hx rfl (hb hby at_211) rfl kst) ?_
  refine oS (u' := T41.setTop (mkF m 215 #[.val (.int p1), .val (.int p2), .val (.int p3), .val (.int p4), .val (.ref b20), .val (.ref b25), .val (.int (own_start p2)), .val (.int (own_end p2 p3)), .val (.int (own_w p1 p2 p4)), .val (.ref b32), .val (.int (1 : Int32)), .val (.int (own_ex p1 p2 p3 p4)), .val (.int (own_ia b32 (own_start p2) (own_end p2 p3) (own_t p1 (own_S p2)) (own_w p1 p2 p4))), .val (.int (if (own_ex p1 p2 p3 p4) = (0 : Int32) then (own_start p2) else ((own_start p2) + (1 : Int32)))), .unset, .unset] [(.int (own_ex p1 p2 p3 p4)), (.int (own_ia b32 (own_start p2) (own_end p2 p3) (own_t p1 (own_S p2)) (own_w p1 p2 p4)))])) (fun _ kst => XS.iload X41.here hx rfl (hb hby at_213) rfl kst) ?_
  refine oS (u' := T41.setTop (mkF m 218 #[.val (.int p1), .val (.int p2), .val (.int p3), .val (.int p4), .val (.ref b20), .val (.ref b25), .val (.int (own_start p2)), .val (.int (own_end p2 p3)), .val (.int (own_w p1 p2 p4)), .val (.ref b32), .val (.int (1 : Int32)), .val (.int (own_ex p1 p2 p3 p4)), .val (.int (own_ia b32 (own_start p2) (own_end p2 p3) (own_t p1 (own_S p2)) (own_w p1 p2 p4))), .val (.int (if (own_ex p1 p2 p3 p4) = (0 : Int32) then (own_start p2) else ((own_start p2) + (1 : Int32)))), .unset, .unset] [])) (fun _ kst => XS.icmpNo X41.here hx rfl (hb hby at_215) rfl (teq (own_took _ _ _ _ _)).2 kst) ?_
  refine oS (u' := T41.setTop (mkF m 220 #[.val (.int p1), .val (.int p2), .val (.int p3), .val (.int p4), .val (.ref b20), .val (.ref b25), .val (.int (own_start p2)), .val (.int (own_end p2 p3)), .val (.int (own_w p1 p2 p4)), .val (.ref b32), .val (.int (1 : Int32)), .val (.int (own_ex p1 p2 p3 p4)), .val (.int (own_ia b32 (own_start p2) (own_end p2 p3) (own_t p1 (own_S p2)) (own_w p1 p2 p4))), .val (.int (if (own_ex p1 p2 p3 p4) = (0 : Int32) then (own_start p2) else ((own_start p2) + (1 : Int32)))), .unset, .unset] [(.ref b32)])) (fun _ kst => XS.aload X41.here hx rfl (hb hby at_218) rfl rfl kst) ?_
  obtain ⟨T44, X44, e44, st44⟩ := own_callVP X41 hx hZ (y := (⟨"com/example/predicant/predicant/format/Cursor", "position", "()I"⟩ : MethodName)) (z := (⟨"com/example/predicant/predicant/format/Cursor", "position", "()I"⟩ : MethodName)) hown (hw _ (List.mem_of_getElem? (i := 62) rfl)) (hw _ (List.mem_of_getElem? (i := 63) rfl)) (notFace_of_selects (args := #[]) (mvT hZ (hw _ (List.mem_of_getElem? (i := 65) rfl)))) (hw _ (List.mem_of_getElem? (i := 65) rfl)) (hw _ (List.mem_of_getElem? (i := 64) rfl)) (by decide) rfl f41_E_b32 (W := 0) (own_rm_pos l Z a0 hw b32 (if (own_ia b32 (own_start p2) (own_end p2 p3) (own_t p1 (own_S p2)) (own_w p1 p2 p4)) = (0 : Int32) then (own_start p2) else (own_start p2) + (1 : Int32)) T41.heap Fp41) (hw _ (List.mem_of_getElem? (i := 66) rfl)) (hw _ (List.mem_of_getElem? (i := 33) rfl)) (by decide) (by decide) (g := (mkF m 220 #[.val (.int p1), .val (.int p2), .val (.int p3), .val (.int p4), .val (.ref b20), .val (.ref b25), .val (.int (own_start p2)), .val (.int (own_end p2 p3)), .val (.int (own_w p1 p2 p4)), .val (.ref b32), .val (.int (1 : Int32)), .val (.int (own_ex p1 p2 p3 p4)), .val (.int (own_ia b32 (own_start p2) (own_end p2 p3) (own_t p1 (own_S p2)) (own_w p1 p2 p4))), .val (.int (if (own_ex p1 p2 p3 p4) = (0 : Int32) then (own_start p2) else ((own_start p2) + (1 : Int32)))), .unset, .unset] [(.ref b32)])) rfl (by rw [hml]; rfl) (b := b32) (argsL := []) (rest := []) (lenOf own_pd6 rfl) rfl (by show 2 * 0 + _ ≤ _; exact Nat.le_of_eq rfl) (hb hby at_220) (by decide) (by decide)
  refine oS (u' := T44.setTop (mkF m 223 #[.val (.int p1), .val (.int p2), .val (.int p3), .val (.int p4), .val (.ref b20), .val (.ref b25), .val (.int (own_start p2)), .val (.int (own_end p2 p3)), .val (.int (own_w p1 p2 p4)), .val (.ref b32), .val (.int (1 : Int32)), .val (.int (own_ex p1 p2 p3 p4)), .val (.int (own_ia b32 (own_start p2) (own_end p2 p3) (own_t p1 (own_S p2)) (own_w p1 p2 p4))), .val (.int (if (own_ex p1 p2 p3 p4) = (0 : Int32) then (own_start p2) else ((own_start p2) + (1 : Int32)))), .unset, .unset] [(.int (if (own_ia b32 (own_start p2) (own_end p2 p3) (own_t p1 (own_S p2)) (own_w p1 p2 p4)) = (0 : Int32) then (own_start p2) else (own_start p2) + (1 : Int32)))])) st44 ?_
  refine oS (u' := T44.setTop (mkF m 225 #[.val (.int p1), .val (.int p2), .val (.int p3), .val (.int p4), .val (.ref b20), .val (.ref b25), .val (.int (own_start p2)), .val (.int (own_end p2 p3)), .val (.int (own_w p1 p2 p4)), .val (.ref b32), .val (.int (1 : Int32)), .val (.int (own_ex p1 p2 p3 p4)), .val (.int (own_ia b32 (own_start p2) (own_end p2 p3) (own_t p1 (own_S p2)) (own_w p1 p2 p4))), .val (.int (if (own_ex p1 p2 p3 p4) = (0 : Int32) then (own_start p2) else ((own_start p2) + (1 : Int32)))), .unset, .unset] [(.int (if (own_ex p1 p2 p3 p4) = (0 : Int32) then (own_start p2) else ((own_start p2) + (1 : Int32)))), (.int (if (own_ia b32 (own_start p2) (own_end p2 p3) (own_t p1 (own_S p2)) (own_w p1 p2 p4)) = (0 : Int32) then (own_start p2) else (own_start p2) + (1 : Int32)))])) (fun _ kst => XS.iload X44.here hx rfl (hb hby at_223) rfl kst) ?_
  refine oS (u' := T44.setTop (mkF m 228 #[.val (.int p1), .val (.int p2), .val (.int p3), .val (.int p4), .val (.ref b20), .val (.ref b25), .val (.int (own_start p2)), .val (.int (own_end p2 p3)), .val (.int (own_w p1 p2 p4)), .val (.ref b32), .val (.int (1 : Int32)), .val (.int (own_ex p1 p2 p3 p4)), .val (.int (own_ia b32 (own_start p2) (own_end p2 p3) (own_t p1 (own_S p2)) (own_w p1 p2 p4))), .val (.int (if (own_ex p1 p2 p3 p4) = (0 : Int32) then (own_start p2) else ((own_start p2) + (1 : Int32)))), .unset, .unset] [])) (fun _ kst => XS.icmpNo X44.here hx rfl (hb hby at_225) rfl (teq (own_posn _ _ _ _ _)).2 kst) ?_
  refine oS (u' := T44.setTop (mkF m 229 #[.val (.int p1), .val (.int p2), .val (.int p3), .val (.int p4), .val (.ref b20), .val (.ref b25), .val (.int (own_start p2)), .val (.int (own_end p2 p3)), .val (.int (own_w p1 p2 p4)), .val (.ref b32), .val (.int (1 : Int32)), .val (.int (own_ex p1 p2 p3 p4)), .val (.int (own_ia b32 (own_start p2) (own_end p2 p3) (own_t p1 (own_S p2)) (own_w p1 p2 p4))), .val (.int (if (own_ex p1 p2 p3 p4) = (0 : Int32) then (own_start p2) else ((own_start p2) + (1 : Int32)))), .unset, .unset] [(.int (1 : Int32))])) (fun _ kst => XS.iconst X44.here hx rfl (hb hby at_228) kst) ?_
  refine oS (u' := T44.setTop (mkF m 233 #[.val (.int p1), .val (.int p2), .val (.int p3), .val (.int p4), .val (.ref b20), .val (.ref b25), .val (.int (own_start p2)), .val (.int (own_end p2 p3)), .val (.int (own_w p1 p2 p4)), .val (.ref b32), .val (.int (1 : Int32)), .val (.int (own_ex p1 p2 p3 p4)), .val (.int (own_ia b32 (own_start p2) (own_end p2 p3) (own_t p1 (own_S p2)) (own_w p1 p2 p4))), .val (.int (if (own_ex p1 p2 p3 p4) = (0 : Int32) then (own_start p2) else ((own_start p2) + (1 : Int32)))), .unset, .unset] [(.int (1 : Int32))])) (fun _ kst => XS.goto X44.here hx rfl (pc0 := 229) (pc' := 233) rfl (hb hby at_229) (by decide) (by decide) kst) ?_
  refine oS (u' := T44.setTop (mkF m 235 #[.val (.int p1), .val (.int p2), .val (.int p3), .val (.int p4), .val (.ref b20), .val (.ref b25), .val (.int (own_start p2)), .val (.int (own_end p2 p3)), .val (.int (own_w p1 p2 p4)), .val (.ref b32), .val (.int (1 : Int32)), .val (.int (own_ex p1 p2 p3 p4)), .val (.int (own_ia b32 (own_start p2) (own_end p2 p3) (own_t p1 (own_S p2)) (own_w p1 p2 p4))), .val (.int (if (own_ex p1 p2 p3 p4) = (0 : Int32) then (own_start p2) else ((own_start p2) + (1 : Int32)))), .val (.int (1 : Int32)), .unset] [])) (fun _ kst => XS.istore X44.here hx rfl (hb hby at_233) rfl (l' := #[.val (.int p1), .val (.int p2), .val (.int p3), .val (.int p4), .val (.ref b20), .val (.ref b25), .val (.int (own_start p2)), .val (.int (own_end p2 p3)), .val (.int (own_w p1 p2 p4)), .val (.ref b32), .val (.int (1 : Int32)), .val (.int (own_ex p1 p2 p3 p4)), .val (.int (own_ia b32 (own_start p2) (own_end p2 p3) (own_t p1 (own_S p2)) (own_w p1 p2 p4))), .val (.int (if (own_ex p1 p2 p3 p4) = (0 : Int32) then (own_start p2) else ((own_start p2) + (1 : Int32)))), .val (.int (1 : Int32)), .unset]) rfl kst) ?_
  refine oS (u' := T44.setTop (mkF m 237 #[.val (.int p1), .val (.int p2), .val (.int p3), .val (.int p4), .val (.ref b20), .val (.ref b25), .val (.int (own_start p2)), .val (.int (own_end p2 p3)), .val (.int (own_w p1 p2 p4)), .val (.ref b32), .val (.int (1 : Int32)), .val (.int (own_ex p1 p2 p3 p4)), .val (.int (own_ia b32 (own_start p2) (own_end p2 p3) (own_t p1 (own_S p2)) (own_w p1 p2 p4))), .val (.int (if (own_ex p1 p2 p3 p4) = (0 : Int32) then (own_start p2) else ((own_start p2) + (1 : Int32)))), .val (.int (1 : Int32)), .unset] [(.ref b32)])) (fun _ kst => XS.aload X44.here hx rfl (hb hby at_235) rfl rfl kst) ?_
  obtain ⟨T45, X45, e45, st45⟩ := own_callVP X44 hx hZ (y := (⟨"com/example/predicant/predicant/format/Cursor", "atEnd", "()Z"⟩ : MethodName)) (z := (⟨"com/example/predicant/predicant/format/Cursor", "atEnd", "()Z"⟩ : MethodName)) hown (hw _ (List.mem_of_getElem? (i := 46) rfl)) (hw _ (List.mem_of_getElem? (i := 47) rfl)) (notFace_of_selects (args := #[]) (mvT hZ (hw _ (List.mem_of_getElem? (i := 49) rfl)))) (hw _ (List.mem_of_getElem? (i := 49) rfl)) (hw _ (List.mem_of_getElem? (i := 48) rfl)) (by decide) e44 f41_E_b32 (W := 0) (own_rm_ae l Z a0 hw b32 (if (own_ia b32 (own_start p2) (own_end p2 p3) (own_t p1 (own_S p2)) (own_w p1 p2 p4)) = (0 : Int32) then (own_start p2) else (own_start p2) + (1 : Int32)) (own_end p2 p3) T41.heap Fp41 Fe41) (hw _ (List.mem_of_getElem? (i := 50) rfl)) (hw _ (List.mem_of_getElem? (i := 33) rfl)) (by decide) (by decide) (g := (mkF m 237 #[.val (.int p1), .val (.int p2), .val (.int p3), .val (.int p4), .val (.ref b20), .val (.ref b25), .val (.int (own_start p2)), .val (.int (own_end p2 p3)), .val (.int (own_w p1 p2 p4)), .val (.ref b32), .val (.int (1 : Int32)), .val (.int (own_ex p1 p2 p3 p4)), .val (.int (own_ia b32 (own_start p2) (own_end p2 p3) (own_t p1 (own_S p2)) (own_w p1 p2 p4))), .val (.int (if (own_ex p1 p2 p3 p4) = (0 : Int32) then (own_start p2) else ((own_start p2) + (1 : Int32)))), .val (.int (1 : Int32)), .unset] [(.ref b32)])) rfl (by rw [hml]; rfl) (b := b32) (argsL := []) (rest := []) (lenOf own_pd1 rfl) rfl (by show 2 * 0 + _ ≤ _; exact Nat.le_of_eq rfl) (hb hby at_237) (by decide) (by decide)
  refine oS (u' := T45.setTop (mkF m 240 #[.val (.int p1), .val (.int p2), .val (.int p3), .val (.int p4), .val (.ref b20), .val (.ref b25), .val (.int (own_start p2)), .val (.int (own_end p2 p3)), .val (.int (own_w p1 p2 p4)), .val (.ref b32), .val (.int (1 : Int32)), .val (.int (own_ex p1 p2 p3 p4)), .val (.int (own_ia b32 (own_start p2) (own_end p2 p3) (own_t p1 (own_S p2)) (own_w p1 p2 p4))), .val (.int (if (own_ex p1 p2 p3 p4) = (0 : Int32) then (own_start p2) else ((own_start p2) + (1 : Int32)))), .val (.int (1 : Int32)), .unset] [(.int (own_ae b32 (if (own_ia b32 (own_start p2) (own_end p2 p3) (own_t p1 (own_S p2)) (own_w p1 p2 p4)) = (0 : Int32) then (own_start p2) else (own_start p2) + (1 : Int32)) (own_end p2 p3)))])) st45 ?_
  refine oS (u' := T45.setTop (mkF m 242 #[.val (.int p1), .val (.int p2), .val (.int p3), .val (.int p4), .val (.ref b20), .val (.ref b25), .val (.int (own_start p2)), .val (.int (own_end p2 p3)), .val (.int (own_w p1 p2 p4)), .val (.ref b32), .val (.int (1 : Int32)), .val (.int (own_ex p1 p2 p3 p4)), .val (.int (own_ia b32 (own_start p2) (own_end p2 p3) (own_t p1 (own_S p2)) (own_w p1 p2 p4))), .val (.int (if (own_ex p1 p2 p3 p4) = (0 : Int32) then (own_start p2) else ((own_start p2) + (1 : Int32)))), .val (.int (1 : Int32)), .unset] [(.int (if (own_ex p1 p2 p3 p4) = (0 : Int32) then (own_start p2) else ((own_start p2) + (1 : Int32)))), (.int (own_ae b32 (if (own_ia b32 (own_start p2) (own_end p2 p3) (own_t p1 (own_S p2)) (own_w p1 p2 p4)) = (0 : Int32) then (own_start p2) else (own_start p2) + (1 : Int32)) (own_end p2 p3)))])) (fun _ kst => XS.iload X45.here hx rfl (hb hby at_240) rfl kst) ?_
  refine oS (u' := T45.setTop (mkF m 244 #[.val (.int p1), .val (.int p2), .val (.int p3), .val (.int p4), .val (.ref b20), .val (.ref b25), .val (.int (own_start p2)), .val (.int (own_end p2 p3)), .val (.int (own_w p1 p2 p4)), .val (.ref b32), .val (.int (1 : Int32)), .val (.int (own_ex p1 p2 p3 p4)), .val (.int (own_ia b32 (own_start p2) (own_end p2 p3) (own_t p1 (own_S p2)) (own_w p1 p2 p4))), .val (.int (if (own_ex p1 p2 p3 p4) = (0 : Int32) then (own_start p2) else ((own_start p2) + (1 : Int32)))), .val (.int (1 : Int32)), .unset] [(.int (own_end p2 p3)), (.int (if (own_ex p1 p2 p3 p4) = (0 : Int32) then (own_start p2) else ((own_start p2) + (1 : Int32)))), (.int (own_ae b32 (if (own_ia b32 (own_start p2) (own_end p2 p3) (own_t p1 (own_S p2)) (own_w p1 p2 p4)) = (0 : Int32) then (own_start p2) else (own_start p2) + (1 : Int32)) (own_end p2 p3)))])) (fun _ kst => XS.iload X45.here hx rfl (hb hby at_242) rfl kst) ?_
  have km47 : ∀ tgt, Steps p.tables e below (T45.setTop (mkF m 252 #[.val (.int p1), .val (.int p2), .val (.int p3), .val (.int p4), .val (.ref b20), .val (.ref b25), .val (.int (own_start p2)), .val (.int (own_end p2 p3)), .val (.int (own_w p1 p2 p4)), .val (.ref b32), .val (.int (1 : Int32)), .val (.int (own_ex p1 p2 p3 p4)), .val (.int (own_ia b32 (own_start p2) (own_end p2 p3) (own_t p1 (own_S p2)) (own_w p1 p2 p4))), .val (.int (if (own_ex p1 p2 p3 p4) = (0 : Int32) then (own_start p2) else ((own_start p2) + (1 : Int32)))), .val (.int (1 : Int32)), .unset] [(.int (if (if (own_ex p1 p2 p3 p4) = (0 : Int32) then (own_start p2) else ((own_start p2) + (1 : Int32))) = (own_end p2 p3) then (1 : Int32) else (0 : Int32))), (.int (own_ae b32 (if (own_ia b32 (own_start p2) (own_end p2 p3) (own_t p1 (own_S p2)) (own_w p1 p2 p4)) = (0 : Int32) then (own_start p2) else (own_start p2) + (1 : Int32)) (own_end p2 p3)))])) tgt → Steps p.tables e below (T45.setTop (mkF m 244 #[.val (.int p1), .val (.int p2), .val (.int p3), .val (.int p4), .val (.ref b20), .val (.ref b25), .val (.int (own_start p2)), .val (.int (own_end p2 p3)), .val (.int (own_w p1 p2 p4)), .val (.ref b32), .val (.int (1 : Int32)), .val (.int (own_ex p1 p2 p3 p4)), .val (.int (own_ia b32 (own_start p2) (own_end p2 p3) (own_t p1 (own_S p2)) (own_w p1 p2 p4))), .val (.int (if (own_ex p1 p2 p3 p4) = (0 : Int32) then (own_start p2) else ((own_start p2) + (1 : Int32)))), .val (.int (1 : Int32)), .unset] [(.int (own_end p2 p3)), (.int (if (own_ex p1 p2 p3 p4) = (0 : Int32) then (own_start p2) else ((own_start p2) + (1 : Int32)))), (.int (own_ae b32 (if (own_ia b32 (own_start p2) (own_end p2 p3) (own_t p1 (own_S p2)) (own_w p1 p2 p4)) = (0 : Int32) then (own_start p2) else (own_start p2) + (1 : Int32)) (own_end p2 p3)))])) tgt := by
    intro tgt kst
    by_cases hc46 : (if (own_ex p1 p2 p3 p4) = (0 : Int32) then (own_start p2) else ((own_start p2) + (1 : Int32))) = (own_end p2 p3)
    · rw [show (if (if (own_ex p1 p2 p3 p4) = (0 : Int32) then (own_start p2) else ((own_start p2) + (1 : Int32))) = (own_end p2 p3) then (1 : Int32) else (0 : Int32)) = (1 : Int32) from if_pos hc46] at kst
      refine XS.icmpNo X45.here hx rfl (hb hby at_244) rfl (teq hc46).2 ?_
      show Steps p.tables e below (T45.setTop (mkF m 247 #[.val (.int p1), .val (.int p2), .val (.int p3), .val (.int p4), .val (.ref b20), .val (.ref b25), .val (.int (own_start p2)), .val (.int (own_end p2 p3)), .val (.int (own_w p1 p2 p4)), .val (.ref b32), .val (.int (1 : Int32)), .val (.int (own_ex p1 p2 p3 p4)), .val (.int (own_ia b32 (own_start p2) (own_end p2 p3) (own_t p1 (own_S p2)) (own_w p1 p2 p4))), .val (.int (if (own_ex p1 p2 p3 p4) = (0 : Int32) then (own_start p2) else ((own_start p2) + (1 : Int32)))), .val (.int (1 : Int32)), .unset] [(.int (own_ae b32 (if (own_ia b32 (own_start p2) (own_end p2 p3) (own_t p1 (own_S p2)) (own_w p1 p2 p4)) = (0 : Int32) then (own_start p2) else (own_start p2) + (1 : Int32)) (own_end p2 p3)))])) _
      refine XS.iconst X45.here hx rfl (hb hby at_247) ?_
      show Steps p.tables e below (T45.setTop (mkF m 248 #[.val (.int p1), .val (.int p2), .val (.int p3), .val (.int p4), .val (.ref b20), .val (.ref b25), .val (.int (own_start p2)), .val (.int (own_end p2 p3)), .val (.int (own_w p1 p2 p4)), .val (.ref b32), .val (.int (1 : Int32)), .val (.int (own_ex p1 p2 p3 p4)), .val (.int (own_ia b32 (own_start p2) (own_end p2 p3) (own_t p1 (own_S p2)) (own_w p1 p2 p4))), .val (.int (if (own_ex p1 p2 p3 p4) = (0 : Int32) then (own_start p2) else ((own_start p2) + (1 : Int32)))), .val (.int (1 : Int32)), .unset] [(.int (1 : Int32)), (.int (own_ae b32 (if (own_ia b32 (own_start p2) (own_end p2 p3) (own_t p1 (own_S p2)) (own_w p1 p2 p4)) = (0 : Int32) then (own_start p2) else (own_start p2) + (1 : Int32)) (own_end p2 p3)))])) _
      refine XS.goto X45.here hx rfl (pc0 := 248) (pc' := 252) rfl (hb hby at_248) (by decide) (by decide) ?_
      show Steps p.tables e below (T45.setTop (mkF m 252 #[.val (.int p1), .val (.int p2), .val (.int p3), .val (.int p4), .val (.ref b20), .val (.ref b25), .val (.int (own_start p2)), .val (.int (own_end p2 p3)), .val (.int (own_w p1 p2 p4)), .val (.ref b32), .val (.int (1 : Int32)), .val (.int (own_ex p1 p2 p3 p4)), .val (.int (own_ia b32 (own_start p2) (own_end p2 p3) (own_t p1 (own_S p2)) (own_w p1 p2 p4))), .val (.int (if (own_ex p1 p2 p3 p4) = (0 : Int32) then (own_start p2) else ((own_start p2) + (1 : Int32)))), .val (.int (1 : Int32)), .unset] [(.int (1 : Int32)), (.int (own_ae b32 (if (own_ia b32 (own_start p2) (own_end p2 p3) (own_t p1 (own_S p2)) (own_w p1 p2 p4)) = (0 : Int32) then (own_start p2) else (own_start p2) + (1 : Int32)) (own_end p2 p3)))])) _
      exact kst
    · rw [show (if (if (own_ex p1 p2 p3 p4) = (0 : Int32) then (own_start p2) else ((own_start p2) + (1 : Int32))) = (own_end p2 p3) then (1 : Int32) else (0 : Int32)) = (0 : Int32) from if_neg hc46] at kst
      refine XS.icmpYes X45.here hx rfl (pc0 := 244) (pc' := 251) rfl (hb hby at_244) rfl (feq hc46).2 (by decide) (by decide) ?_
      show Steps p.tables e below (T45.setTop (mkF m 251 #[.val (.int p1), .val (.int p2), .val (.int p3), .val (.int p4), .val (.ref b20), .val (.ref b25), .val (.int (own_start p2)), .val (.int (own_end p2 p3)), .val (.int (own_w p1 p2 p4)), .val (.ref b32), .val (.int (1 : Int32)), .val (.int (own_ex p1 p2 p3 p4)), .val (.int (own_ia b32 (own_start p2) (own_end p2 p3) (own_t p1 (own_S p2)) (own_w p1 p2 p4))), .val (.int (if (own_ex p1 p2 p3 p4) = (0 : Int32) then (own_start p2) else ((own_start p2) + (1 : Int32)))), .val (.int (1 : Int32)), .unset] [(.int (own_ae b32 (if (own_ia b32 (own_start p2) (own_end p2 p3) (own_t p1 (own_S p2)) (own_w p1 p2 p4)) = (0 : Int32) then (own_start p2) else (own_start p2) + (1 : Int32)) (own_end p2 p3)))])) _
      refine XS.iconst X45.here hx rfl (hb hby at_251) ?_
      show Steps p.tables e below (T45.setTop (mkF m 252 #[.val (.int p1), .val (.int p2), .val (.int p3), .val (.int p4), .val (.ref b20), .val (.ref b25), .val (.int (own_start p2)), .val (.int (own_end p2 p3)), .val (.int (own_w p1 p2 p4)), .val (.ref b32), .val (.int (1 : Int32)), .val (.int (own_ex p1 p2 p3 p4)), .val (.int (own_ia b32 (own_start p2) (own_end p2 p3) (own_t p1 (own_S p2)) (own_w p1 p2 p4))), .val (.int (if (own_ex p1 p2 p3 p4) = (0 : Int32) then (own_start p2) else ((own_start p2) + (1 : Int32)))), .val (.int (1 : Int32)), .unset] [(.int (0 : Int32)), (.int (own_ae b32 (if (own_ia b32 (own_start p2) (own_end p2 p3) (own_t p1 (own_S p2)) (own_w p1 p2 p4)) = (0 : Int32) then (own_start p2) else (own_start p2) + (1 : Int32)) (own_end p2 p3)))])) _
      exact kst
  refine oS (u' := T45.setTop (mkF m 252 #[.val (.int p1), .val (.int p2), .val (.int p3), .val (.int p4), .val (.ref b20), .val (.ref b25), .val (.int (own_start p2)), .val (.int (own_end p2 p3)), .val (.int (own_w p1 p2 p4)), .val (.ref b32), .val (.int (1 : Int32)), .val (.int (own_ex p1 p2 p3 p4)), .val (.int (own_ia b32 (own_start p2) (own_end p2 p3) (own_t p1 (own_S p2)) (own_w p1 p2 p4))), .val (.int (if (own_ex p1 p2 p3 p4) = (0 : Int32) then (own_start p2) else ((own_start p2) + (1 : Int32)))), .val (.int (1 : Int32)), .unset] [(.int (if (if (own_ex p1 p2 p3 p4) = (0 : Int32) then (own_start p2) else ((own_start p2) + (1 : Int32))) = (own_end p2 p3) then (1 : Int32) else (0 : Int32))), (.int (own_ae b32 (if (own_ia b32 (own_start p2) (own_end p2 p3) (own_t p1 (own_S p2)) (own_w p1 p2 p4)) = (0 : Int32) then (own_start p2) else (own_start p2) + (1 : Int32)) (own_end p2 p3)))])) km47 ?_
  refine oS (u' := T45.setTop (mkF m 255 #[.val (.int p1), .val (.int p2), .val (.int p3), .val (.int p4), .val (.ref b20), .val (.ref b25), .val (.int (own_start p2)), .val (.int (own_end p2 p3)), .val (.int (own_w p1 p2 p4)), .val (.ref b32), .val (.int (1 : Int32)), .val (.int (own_ex p1 p2 p3 p4)), .val (.int (own_ia b32 (own_start p2) (own_end p2 p3) (own_t p1 (own_S p2)) (own_w p1 p2 p4))), .val (.int (if (own_ex p1 p2 p3 p4) = (0 : Int32) then (own_start p2) else ((own_start p2) + (1 : Int32)))), .val (.int (1 : Int32)), .unset] [])) (fun _ kst => XS.icmpNo X45.here hx rfl (hb hby at_252) rfl (teq (own_last _ _ _ _ _)).2 kst) ?_
  refine oS (u' := T45.setTop (mkF m 256 #[.val (.int p1), .val (.int p2), .val (.int p3), .val (.int p4), .val (.ref b20), .val (.ref b25), .val (.int (own_start p2)), .val (.int (own_end p2 p3)), .val (.int (own_w p1 p2 p4)), .val (.ref b32), .val (.int (1 : Int32)), .val (.int (own_ex p1 p2 p3 p4)), .val (.int (own_ia b32 (own_start p2) (own_end p2 p3) (own_t p1 (own_S p2)) (own_w p1 p2 p4))), .val (.int (if (own_ex p1 p2 p3 p4) = (0 : Int32) then (own_start p2) else ((own_start p2) + (1 : Int32)))), .val (.int (1 : Int32)), .unset] [(.int (1 : Int32))])) (fun _ kst => XS.iconst X45.here hx rfl (hb hby at_255) kst) ?_
  refine oS (u' := T45.setTop (mkF m 260 #[.val (.int p1), .val (.int p2), .val (.int p3), .val (.int p4), .val (.ref b20), .val (.ref b25), .val (.int (own_start p2)), .val (.int (own_end p2 p3)), .val (.int (own_w p1 p2 p4)), .val (.ref b32), .val (.int (1 : Int32)), .val (.int (own_ex p1 p2 p3 p4)), .val (.int (own_ia b32 (own_start p2) (own_end p2 p3) (own_t p1 (own_S p2)) (own_w p1 p2 p4))), .val (.int (if (own_ex p1 p2 p3 p4) = (0 : Int32) then (own_start p2) else ((own_start p2) + (1 : Int32)))), .val (.int (1 : Int32)), .unset] [(.int (1 : Int32))])) (fun _ kst => XS.goto X45.here hx rfl (pc0 := 256) (pc' := 260) rfl (hb hby at_256) (by decide) (by decide) kst) ?_
  refine oS (u' := T45.setTop (mkF m 262 #[.val (.int p1), .val (.int p2), .val (.int p3), .val (.int p4), .val (.ref b20), .val (.ref b25), .val (.int (own_start p2)), .val (.int (own_end p2 p3)), .val (.int (own_w p1 p2 p4)), .val (.ref b32), .val (.int (1 : Int32)), .val (.int (own_ex p1 p2 p3 p4)), .val (.int (own_ia b32 (own_start p2) (own_end p2 p3) (own_t p1 (own_S p2)) (own_w p1 p2 p4))), .val (.int (if (own_ex p1 p2 p3 p4) = (0 : Int32) then (own_start p2) else ((own_start p2) + (1 : Int32)))), .val (.int (1 : Int32)), .val (.int (1 : Int32))] [])) (fun _ kst => XS.istore X45.here hx rfl (hb hby at_260) rfl (l' := #[.val (.int p1), .val (.int p2), .val (.int p3), .val (.int p4), .val (.ref b20), .val (.ref b25), .val (.int (own_start p2)), .val (.int (own_end p2 p3)), .val (.int (own_w p1 p2 p4)), .val (.ref b32), .val (.int (1 : Int32)), .val (.int (own_ex p1 p2 p3 p4)), .val (.int (own_ia b32 (own_start p2) (own_end p2 p3) (own_t p1 (own_S p2)) (own_w p1 p2 p4))), .val (.int (if (own_ex p1 p2 p3 p4) = (0 : Int32) then (own_start p2) else ((own_start p2) + (1 : Int32)))), .val (.int (1 : Int32)), .val (.int (1 : Int32))]) rfl kst) ?_
  refine oS (u' := T45.setTop (mkF m 264 #[.val (.int p1), .val (.int p2), .val (.int p3), .val (.int p4), .val (.ref b20), .val (.ref b25), .val (.int (own_start p2)), .val (.int (own_end p2 p3)), .val (.int (own_w p1 p2 p4)), .val (.ref b32), .val (.int (1 : Int32)), .val (.int (own_ex p1 p2 p3 p4)), .val (.int (own_ia b32 (own_start p2) (own_end p2 p3) (own_t p1 (own_S p2)) (own_w p1 p2 p4))), .val (.int (if (own_ex p1 p2 p3 p4) = (0 : Int32) then (own_start p2) else ((own_start p2) + (1 : Int32)))), .val (.int (1 : Int32)), .val (.int (1 : Int32))] [(.int (1 : Int32))])) (fun _ kst => XS.iload X45.here hx rfl (hb hby at_262) rfl kst) ?_
  refine oS (u' := T45.setTop (mkF m 267 #[.val (.int p1), .val (.int p2), .val (.int p3), .val (.int p4), .val (.ref b20), .val (.ref b25), .val (.int (own_start p2)), .val (.int (own_end p2 p3)), .val (.int (own_w p1 p2 p4)), .val (.ref b32), .val (.int (1 : Int32)), .val (.int (own_ex p1 p2 p3 p4)), .val (.int (own_ia b32 (own_start p2) (own_end p2 p3) (own_t p1 (own_S p2)) (own_w p1 p2 p4))), .val (.int (if (own_ex p1 p2 p3 p4) = (0 : Int32) then (own_start p2) else ((own_start p2) + (1 : Int32)))), .val (.int (1 : Int32)), .val (.int (1 : Int32))] [])) (fun _ kst => XS.ifNo X45.here hx rfl (hb hby at_264) rfl ((if0 _ _).trans (feq (by decide : ¬ ((1 : Int32) = (0 : Int32)))).1) kst) ?_
  refine oS (u' := T45.setTop (mkF m 269 #[.val (.int p1), .val (.int p2), .val (.int p3), .val (.int p4), .val (.ref b20), .val (.ref b25), .val (.int (own_start p2)), .val (.int (own_end p2 p3)), .val (.int (own_w p1 p2 p4)), .val (.ref b32), .val (.int (1 : Int32)), .val (.int (own_ex p1 p2 p3 p4)), .val (.int (own_ia b32 (own_start p2) (own_end p2 p3) (own_t p1 (own_S p2)) (own_w p1 p2 p4))), .val (.int (if (own_ex p1 p2 p3 p4) = (0 : Int32) then (own_start p2) else ((own_start p2) + (1 : Int32)))), .val (.int (1 : Int32)), .val (.int (1 : Int32))] [(.int (1 : Int32))])) (fun _ kst => XS.iload X45.here hx rfl (hb hby at_267) rfl kst) ?_
  refine oS (u' := T45.setTop (mkF m 272 #[.val (.int p1), .val (.int p2), .val (.int p3), .val (.int p4), .val (.ref b20), .val (.ref b25), .val (.int (own_start p2)), .val (.int (own_end p2 p3)), .val (.int (own_w p1 p2 p4)), .val (.ref b32), .val (.int (1 : Int32)), .val (.int (own_ex p1 p2 p3 p4)), .val (.int (own_ia b32 (own_start p2) (own_end p2 p3) (own_t p1 (own_S p2)) (own_w p1 p2 p4))), .val (.int (if (own_ex p1 p2 p3 p4) = (0 : Int32) then (own_start p2) else ((own_start p2) + (1 : Int32)))), .val (.int (1 : Int32)), .val (.int (1 : Int32))] [])) (fun _ kst => XS.ifNo X45.here hx rfl (hb hby at_269) rfl ((if0 _ _).trans (feq (by decide : ¬ ((1 : Int32) = (0 : Int32)))).1) kst) ?_
  refine oS (u' := T45.setTop (mkF m 274 #[.val (.int p1), .val (.int p2), .val (.int p3), .val (.int p4), .val (.ref b20), .val (.ref b25), .val (.int (own_start p2)), .val (.int (own_end p2 p3)), .val (.int (own_w p1 p2 p4)), .val (.ref b32), .val (.int (1 : Int32)), .val (.int (own_ex p1 p2 p3 p4)), .val (.int (own_ia b32 (own_start p2) (own_end p2 p3) (own_t p1 (own_S p2)) (own_w p1 p2 p4))), .val (.int (if (own_ex p1 p2 p3 p4) = (0 : Int32) then (own_start p2) else ((own_start p2) + (1 : Int32)))), .val (.int (1 : Int32)), .val (.int (1 : Int32))] [(.int (1 : Int32))])) (fun _ kst => XS.iload X45.here hx rfl (hb hby at_272) rfl kst) ?_
  refine oS (u' := T45.setTop (mkF m 277 #[.val (.int p1), .val (.int p2), .val (.int p3), .val (.int p4), .val (.ref b20), .val (.ref b25), .val (.int (own_start p2)), .val (.int (own_end p2 p3)), .val (.int (own_w p1 p2 p4)), .val (.ref b32), .val (.int (1 : Int32)), .val (.int (own_ex p1 p2 p3 p4)), .val (.int (own_ia b32 (own_start p2) (own_end p2 p3) (own_t p1 (own_S p2)) (own_w p1 p2 p4))), .val (.int (if (own_ex p1 p2 p3 p4) = (0 : Int32) then (own_start p2) else ((own_start p2) + (1 : Int32)))), .val (.int (1 : Int32)), .val (.int (1 : Int32))] [])) (fun _ kst => XS.ifNo X45.here hx rfl (hb hby at_274) rfl ((if0 _ _).trans (feq (by decide : ¬ ((1 : Int32) = (0 : Int32)))).1) kst) ?_
  refine oS (u' := T45.setTop (mkF m 278 #[.val (.int p1), .val (.int p2), .val (.int p3), .val (.int p4), .val (.ref b20), .val (.ref b25), .val (.int (own_start p2)), .val (.int (own_end p2 p3)), .val (.int (own_w p1 p2 p4)), .val (.ref b32), .val (.int (1 : Int32)), .val (.int (own_ex p1 p2 p3 p4)), .val (.int (own_ia b32 (own_start p2) (own_end p2 p3) (own_t p1 (own_S p2)) (own_w p1 p2 p4))), .val (.int (if (own_ex p1 p2 p3 p4) = (0 : Int32) then (own_start p2) else ((own_start p2) + (1 : Int32)))), .val (.int (1 : Int32)), .val (.int (1 : Int32))] [(.int (1 : Int32))])) (fun _ kst => XS.iconst X45.here hx rfl (hb hby at_277) kst) ?_
  refine oS (u' := T45.setTop (mkF m 282 #[.val (.int p1), .val (.int p2), .val (.int p3), .val (.int p4), .val (.ref b20), .val (.ref b25), .val (.int (own_start p2)), .val (.int (own_end p2 p3)), .val (.int (own_w p1 p2 p4)), .val (.ref b32), .val (.int (1 : Int32)), .val (.int (own_ex p1 p2 p3 p4)), .val (.int (own_ia b32 (own_start p2) (own_end p2 p3) (own_t p1 (own_S p2)) (own_w p1 p2 p4))), .val (.int (if (own_ex p1 p2 p3 p4) = (0 : Int32) then (own_start p2) else ((own_start p2) + (1 : Int32)))), .val (.int (1 : Int32)), .val (.int (1 : Int32))] [(.int (1 : Int32))])) (fun _ kst => XS.goto X45.here hx rfl (pc0 := 278) (pc' := 282) rfl (hb hby at_278) (by decide) (by decide) kst) ?_
  refine own_retN X45 hx hlk (t := .boolean) hret (by simp) (hb hby at_282) ?_ (by decide) (by decide)
  exact ⟨rfl, N41⟩
set_option maxRecDepth 65536 in
set_option maxHeartbeats 40000000 in
theorem comes_1 {Post : Tables → Env → Array Value → State → Outcome → State → Prop} (hpost : ∀ tb e args s v u, (limb_1_1.after args s (.returned v) u = true ∧ limb_1_2.after args s (.returned v) u = true ∧ True) → FrameEnd s (.returned v) u (Jvm.fieldLocs frame_1_writes args s ++ Jvm.arrayLocs frame_1_arrays args s ++ Jvm.staticLocs frame_1_statics s) 16 128 → Post tb e args s (.returned v) u) :
    ArmFor flags0 classFile x code maxLocals ret World_1 tables_1 room_1 Calls_1 rest_1 Pre_1 Post := by
  intro l hfl _ _ p e ha hc hk s m args below hf hA hF happ hP
  obtain ⟨hcalls, hrest, hpre⟩ := hP
  obtain ⟨-, -, -, hnamed, -, -, -, hat⟩ := (Spec.applies_iff hf).mp happ
  obtain ⟨hg, hn⟩ := and_e (Cond.before_iff.mp (show (Jvm.Cond.and given_1 narrow_1).before args s = true from hpre))
  obtain ⟨g0, gg0⟩ := and_e hg
  obtain ⟨g1, gg1⟩ := and_e gg0
  obtain ⟨g2, gg2⟩ := and_e gg1
  obtain ⟨g3, gg3⟩ := and_e gg2
  obtain ⟨w0, w1, w2, w3, rfl⟩ : ∃ w0 w1 w2 w3 : Value, args = #[w0, w1, w2, w3] := by
    have hs : args.size = 4 := by simpa [Cond.value, given_1] using g0
    obtain ⟨L⟩ := args
    match L, hs with
    | [w0, w1, w2, w3], _ => exact ⟨w0, w1, w2, w3, rfl⟩
  have hw := fun d (hd : d ∈ tables_1) => atoms_spec (ws := Jvm.Cond.code x code maxLocals ret :: tables_1) hat d (List.mem_cons_of_mem _ hd)
  have hfit : Fit s := fun {y c} hc i hi => by
    obtain ⟨ha, rfl⟩ := Array.getElem?_eq_some_iff.mp hc
    have q := List.all_eq_true.mp ((Array.all_eq_true_iff_forall_mem.mp hF) _ (Array.getElem_mem ha)) i (List.mem_range.mpr hi)
    simpa [Array.getElem?_eq_getElem hi] using q
  obtain ⟨i0, ei0⟩ := is_v g1
  obtain rfl : w0 = (.int i0) := Option.some.inj ei0
  obtain ⟨i1, ei1⟩ := is_v g2
  obtain rfl : w1 = (.int i1) := Option.some.inj ei1
  obtain ⟨i2, ei2⟩ := is_v g3
  obtain rfl : w2 = (.int i2) := Option.some.inj ei2
  obtain ⟨i3, ei3⟩ := is_v gg3
  obtain rfl : w3 = (.int i3) := Option.some.inj ei3
  obtain ⟨hsets, hown0⟩ := atoms_of _ (rest_1_c_eq ▸ (show rest_1_c.before _ s = true from hrest))
  obtain ⟨G1, vG1⟩ := is_v (Cond.before_iff.mp (hsets _ (List.mem_of_getElem? (i := 1) rfl)))
  have O2 := Sta.start vG1 (Or.inl (hsets _ (List.mem_of_getElem? (i := 0) rfl)))
  have P5 : ¬ G1 = (0 : Int32) := gotF (Cond.eq_ints vG1 (Term.int_eval 0)) (not_v (Cond.before_iff.mp (hsets _ (List.mem_of_getElem? (i := 2) rfl))))
  obtain ⟨G3, vG3, rG3⟩ := isR_v (Cond.before_iff.mp (hsets _ (List.mem_of_getElem? (i := 8) rfl)))
  have O4 := Sta.start vG3 (Or.inl (hsets _ (List.mem_of_getElem? (i := 7) rfl)))
  obtain ⟨n, o, h1, h2, h3, _, L, rfl, ⟨rfl, N⟩, hq⟩ := own_law l s _ hw i0 i1 i2 i3 G1 G3 s.heap s.heap.size (Nat.le_refl _) O2 P5 O4 rG3 p e ha hc hk s m _ below hf ((Spec.applies_iff_loose hf).mp happ).1 ⟨rfl, State.Warmed39.refl s, rfl⟩ trivial
  refine ⟨n, _, h1, h2, h3, hpost _ _ _ _ _ _ ⟨Cond.after_iff.mpr rfl, Cond.after_iff.mpr (eq_i res_at (Term.int_eval (1)) rfl), trivial⟩ ⟨hq.1, hq.2.1, (hq.2.2.sift fun y hy => Or.inr (N y hy)).mono (by decide) (by decide)⟩⟩
theorem main_1_1 : Claimed_1_1 := comes_1 fun _ _ _ _ _ _ h hF => ⟨h.1, hF⟩
theorem main_1_2 : Claimed_1_2 := comes_1 fun _ _ _ _ _ _ h hF => ⟨h.2.1, hF⟩
end Jvm.Pilot.@@N@@
namespace Jvm.Pilot.@@N@@
open Jvm Jvm.ClassFile Sem Op Lib Jvm.Free Jvm.Stand Jvm.Pilot.@@N@@.Jvm.D
/-! MADE BY PROGRAM (witnessworld.py) out of the Statement's table words and the real class files: 20 classes; the members and pool entries that the words name. The judged class is class 1, her method 1. -/
namespace start1
open Jvm.ClassFile
def u (s : String) : CpInfo := .utf8 (stringToUtf16 s)
/-- a pool by its gaps: so many unusable entries, then the entry; so many at the end -/
def gap : Nat → List CpInfo → List CpInfo
  | 0, r => r
  | n + 1, r => .unusable :: gap n r
def poolList (es : List (Nat × CpInfo)) (last : Nat) : List CpInfo := es.foldr (fun e r => gap e.1 (e.2 :: r)) (gap last [])
def pool (es : List (Nat × CpInfo)) (last : Nat) : Array CpInfo := ⟨poolList es last⟩
def fileOf (pool : Array CpInfo) (this : Nat) (attrs : Array Attribute := #[]) (ms : Array MethodInfo := #[]) (fl : Nat := 33) (sup : Nat := 0) (ifs : Array Nat := #[]) (fds : Array FieldInfo := #[]) : ClassFile where
  minorVersion := 0
  majorVersion := 65
  constantPool := pool
  accessFlags := fl
  thisClass := this
  superClass := sup
  interfaces := ifs
  fields := fds
  methods := ms
  attributes := attrs
def plain (name : String) (sup : Option ClassId) : Class where
  name := name
  kind := .ordinary
  loader := none
  accessFlags := 33
  super := sup
  interfaces := #[]
  cf := none
  fields := #[]
  methods := #[]
  instanceTypes := #[]
  staticTypes := #[]
  resolved := #[]
  callSites := []
  init := .initialized
  statics := none
  mirror := none

def pool0 : Array CpInfo := pool [(5, u "<init>"), (0, u "()V"), (1, .class_ 10), (1, u "java/lang/Object")] 113

def k0c0 : Code := { maxStack := 0, maxLocals := 1, code := object_method_1_code, exceptionTable := #[], attributes := #[] }
def k0m0 : Method := { name := "<init>", desc := "()V", sig := { parameters := [], returnType := none }, accessFlags := 1, code := some k0c0 }
/-- java/lang/Object -/
def k0 : Class := { plain "java/lang/Object" none with
  accessFlags := 33
  interfaces := #[]
  cf := some (fileOf pool0 8 #[] #[{ accessFlags := 1, nameIndex := 5, descriptorIndex := 6, attributes := #[] }] 33 0 #[] #[])
  fields := #[]
  methods := #[k0m0]
  instanceTypes := #[]
  staticTypes := #[]
  resolved := Array.replicate 124 none
  statics := none }

def pool1 : Array CpInfo := pool [(2, .class_ 4), (1, u "java/lang/Object"), (0, u "<init>"), (0, u "()V"), (0, .class_ 8), (0, u "java/lang/String"), (0, .methodref 7 10), (0, .nameAndType 5 11), (0, u "([C)V"), (0, .integer 2147483647), (0, .class_ 14), (0, u "com/example/predicant/predicant/format/Cursor"), (0, .methodref 13 16), (0, .nameAndType 5 17), (0, u "(ILjava/lang/String;II)V"), (0, .methodref 13 19), (0, .nameAndType 20 21), (0, u "atEnd"), (0, u "()Z"), (0, .methodref 13 23), (0, .nameAndType 24 25), (0, u "take"), (0, u "(C)Z"), (0, .methodref 13 27), (0, .nameAndType 28 29), (0, u "position"), (0, u "()I"), (0, .class_ 31), (0, u "com/example/predicant/predicant/format/CursorAtEndPinLaw"), (2, u "law"), (0, u "(IIII)Z")] 5

def k1m0 : Method := { name := "<init>", desc := "()V", sig := { parameters := [], returnType := none }, accessFlags := 1, code := none }
def k1c1 : Code := { maxStack := 6, maxLocals := 16, code := code, exceptionTable := #[], attributes := #[] }
def k1m1 : Method := { name := "law", desc := "(IIII)Z", sig := { parameters := [.int, .int, .int, .int], returnType := some .boolean }, accessFlags := 9, code := some k1c1 }
/-- com/example/predicant/predicant/format/CursorAtEndPinLaw -/
def k1 : Class := { plain "com/example/predicant/predicant/format/CursorAtEndPinLaw" (some 0) with
  accessFlags := 49
  interfaces := #[]
  cf := some (fileOf pool1 30 #[] #[{ accessFlags := 1, nameIndex := 5, descriptorIndex := 6, attributes := #[] }, { accessFlags := 9, nameIndex := 34, descriptorIndex := 35, attributes := #[] }] 49 2 #[] #[])
  fields := #[]
  methods := #[k1m0, k1m1]
  instanceTypes := #[]
  staticTypes := #[]
  resolved := Array.replicate 41 none
  statics := none }

def pool2 : Array CpInfo := pool [(1, .class_ 2), (0, u "java/io/Serializable"), (0, .class_ 4), (0, u "java/lang/Object")] 2

/-- java/io/Serializable -/
def k2 : Class := { plain "java/io/Serializable" (some 0) with
  accessFlags := 1537
  interfaces := #[]
  cf := some (fileOf pool2 1 #[] #[] 1537 3 #[] #[])
  fields := #[]
  methods := #[]
  instanceTypes := #[]
  staticTypes := #[]
  resolved := Array.replicate 7 none
  statics := none }

def pool3 : Array CpInfo := pool [(1, .class_ 2), (0, u "java/lang/Comparable"), (0, .class_ 4), (0, u "java/lang/Object")] 7

/-- java/lang/Comparable -/
def k3 : Class := { plain "java/lang/Comparable" (some 0) with
  accessFlags := 1537
  interfaces := #[]
  cf := some (fileOf pool3 1 #[] #[] 1537 3 #[] #[])
  fields := #[]
  methods := #[]
  instanceTypes := #[]
  staticTypes := #[]
  resolved := Array.replicate 12 none
  statics := none }

def pool4 : Array CpInfo := pool [(2, .class_ 4), (1, u "java/lang/CharSequence"), (42, .class_ 48), (0, u "java/lang/CharSequence$1CodePointIterator"), (10, .class_ 60), (0, u "java/lang/CharSequence$1CharIterator"), (5, .class_ 67), (0, u "java/lang/Object")] 63

/-- java/lang/CharSequence -/
def k4 : Class := { plain "java/lang/CharSequence" (some 0) with
  accessFlags := 1537
  interfaces := #[]
  cf := some (fileOf pool4 2 #[.nestMembers #[47, 59]] #[] 1537 66 #[] #[])
  fields := #[]
  methods := #[]
  instanceTypes := #[]
  staticTypes := #[]
  resolved := Array.replicate 131 none
  statics := none }

def pool5 : Array CpInfo := pool [(1, .class_ 2), (0, u "java/lang/constant/Constable"), (0, .class_ 4), (0, u "java/lang/Object")] 6

/-- java/lang/constant/Constable -/
def k5 : Class := { plain "java/lang/constant/Constable" (some 0) with
  accessFlags := 1537
  interfaces := #[]
  cf := some (fileOf pool5 1 #[] #[] 1537 3 #[] #[])
  fields := #[]
  methods := #[]
  instanceTypes := #[]
  staticTypes := #[]
  resolved := Array.replicate 11 none
  statics := none }

def pool6 : Array CpInfo := pool [(1, .class_ 2), (0, u "java/lang/constant/ConstantDesc"), (0, .class_ 4), (0, u "java/lang/Object")] 32

/-- java/lang/constant/ConstantDesc -/
def k6 : Class := { plain "java/lang/constant/ConstantDesc" (some 0) with
  accessFlags := 1537
  interfaces := #[]
  cf := some (fileOf pool6 1 #[] #[] 1537 3 #[] #[])
  fields := #[]
  methods := #[]
  instanceTypes := #[]
  staticTypes := #[]
  resolved := Array.replicate 37 none
  statics := none }

def pool7 : Array CpInfo := pool [(1, .methodref 2 3), (0, .class_ 4), (0, .nameAndType 5 6), (0, u "java/lang/Object"), (0, u "<init>"), (0, u "()V"), (2, .fieldref 10 11), (0, .class_ 12), (0, .nameAndType 13 14), (0, u "java/lang/String"), (0, u "value"), (0, u "[B"), (0, .fieldref 10 16), (0, .nameAndType 17 18), (0, u "coder"), (0, u "B"), (2, u "hash"), (0, u "I"), (2, u "hashIsZero"), (0, u "Z"), (0, .methodref 10 28), (0, .nameAndType 5 29), (0, u "([CIILjava/lang/Void;)V"), (8, .fieldref 10 39), (0, .nameAndType 40 26), (0, u "COMPACT_STRINGS"), (1, .class_ 44), (1, u "java/lang/StringUTF16"), (0, u "compress"), (1, .methodref 42 48), (0, .nameAndType 49 50), (0, u "coderFromArrayLen"), (0, u "([BI)B"), (56, .class_ 109), (1, u "java/lang/StringLatin1"), (32, u "()Z"), (34, .methodref 42 178), (0, .nameAndType 45 179), (0, u "([CII)[B"), (183, u "([BI)C"), (27, u "(II)V"), (35, u "(I)C"), (64, .methodref 10 493), (0, .nameAndType 494 142), (0, u "isLatin1"), (0, .methodref 107 496), (0, .nameAndType 497 363), (0, u "charAt"), (3, u "checkIndex"), (73, .class_ 576), (0, u "java/lang/CharSequence"), (22, u "CASE_INSENSITIVE_ORDER"), (0, u "Ljava/util/Comparator;"), (409, u "([C)V"), (42, .fieldref 1054 1055), (0, .class_ 1056), (0, .nameAndType 1057 1058), (0, u "jdk/internal/util/Preconditions"), (0, u "SIOOBE_FORMATTER"), (0, u "Ljava/util/function/BiFunction;"), (0, .methodref 1054 1060), (0, .nameAndType 501 1061), (0, u "(IILjava/util/function/BiFunction;)I"), (39, u "serialPersistentFields"), (0, u "[Ljava/io/ObjectStreamField;"), (0, .class_ 1104), (0, u "java/lang/String$CaseInsensitiveComparator"), (1, .class_ 1107), (0, u "java/io/Serializable"), (0, .class_ 1109), (0, u "java/lang/Comparable"), (0, .class_ 1111), (0, u "java/lang/constant/Constable"), (0, .class_ 1113), (0, u "java/lang/constant/ConstantDesc"), (2, u "serialVersionUID"), (0, u "J"), (3, u "REPL"), (0, u "C"), (2, u "LATIN1"), (1, u "UTF16")] 323

def k7m0 : Method := { name := "<init>", desc := "()V", sig := { parameters := [], returnType := none }, accessFlags := 1, code := none }
def k7c1 : Code := { maxStack := 5, maxLocals := 2, code := jdk_42_method_3_code, exceptionTable := #[], attributes := #[] }
def k7m1 : Method := { name := "<init>", desc := "([C)V", sig := { parameters := [(.array .char)], returnType := none }, accessFlags := 1, code := some k7c1 }
def k7c2 : Code := { maxStack := 2, maxLocals := 2, code := jdk_42_method_56_code, exceptionTable := #[], attributes := #[] }
def k7m2 : Method := { name := "charAt", desc := "(I)C", sig := { parameters := [.int], returnType := some .char }, accessFlags := 1, code := some k7c2 }
def k7c3 : Code := { maxStack := 4, maxLocals := 6, code := jdk_42_method_149_code, exceptionTable := #[], attributes := #[] }
def k7m3 : Method := { name := "<init>", desc := "([CIILjava/lang/Void;)V", sig := { parameters := [(.array .char), .int, .int, (.object "java/lang/Void")], returnType := none }, accessFlags := 2, code := some k7c3 }
def k7c4 : Code := { maxStack := 1, maxLocals := 1, code := jdk_42_method_154_code, exceptionTable := #[], attributes := #[] }
def k7m4 : Method := { name := "isLatin1", desc := "()Z", sig := { parameters := [], returnType := some .boolean }, accessFlags := 0, code := some k7c4 }
def k7c5 : Code := { maxStack := 3, maxLocals := 2, code := jdk_42_method_155_code, exceptionTable := #[], attributes := #[] }
def k7m5 : Method := { name := "checkIndex", desc := "(II)V", sig := { parameters := [.int, .int], returnType := none }, accessFlags := 8, code := some k7c5 }
/-- java/lang/String -/
def k7 : Class := { plain "java/lang/String" (some 0) with
  accessFlags := 49
  interfaces := #[2, 3, 4, 5, 6]
  cf := some (fileOf pool7 10 #[.nestMembers #[1103]] #[{ accessFlags := 1, nameIndex := 5, descriptorIndex := 6, attributes := #[] }, { accessFlags := 1, nameIndex := 5, descriptorIndex := 1010, attributes := #[] }, { accessFlags := 1, nameIndex := 497, descriptorIndex := 427, attributes := #[] }, { accessFlags := 2, nameIndex := 5, descriptorIndex := 29, attributes := #[] }, { accessFlags := 0, nameIndex := 494, descriptorIndex := 142, attributes := #[] }, { accessFlags := 8, nameIndex := 501, descriptorIndex := 391, attributes := #[] }] 49 2 #[1106, 1108, 575, 1110, 1112] #[{ accessFlags := 18, nameIndex := 13, descriptorIndex := 14, attributes := #[] }, { accessFlags := 18, nameIndex := 17, descriptorIndex := 18, attributes := #[] }, { accessFlags := 2, nameIndex := 21, descriptorIndex := 22, attributes := #[] }, { accessFlags := 2, nameIndex := 25, descriptorIndex := 26, attributes := #[] }, { accessFlags := 26, nameIndex := 1116, descriptorIndex := 1117, attributes := #[] }, { accessFlags := 24, nameIndex := 40, descriptorIndex := 26, attributes := #[] }, { accessFlags := 26, nameIndex := 1101, descriptorIndex := 1102, attributes := #[] }, { accessFlags := 26, nameIndex := 1121, descriptorIndex := 1122, attributes := #[] }, { accessFlags := 25, nameIndex := 599, descriptorIndex := 600, attributes := #[] }, { accessFlags := 24, nameIndex := 1125, descriptorIndex := 18, attributes := #[] }, { accessFlags := 24, nameIndex := 1127, descriptorIndex := 18, attributes := #[] }])
  fields := #[{ name := "value", type := (.array .byte), accessFlags := 18, slot := 0, constantValue := 0 }, { name := "coder", type := .byte, accessFlags := 18, slot := 1, constantValue := 0 }, { name := "hash", type := .int, accessFlags := 2, slot := 2, constantValue := 0 }, { name := "hashIsZero", type := .boolean, accessFlags := 2, slot := 3, constantValue := 0 }, { name := "serialVersionUID", type := .long, accessFlags := 26, slot := 0, constantValue := 0 }, { name := "COMPACT_STRINGS", type := .boolean, accessFlags := 24, slot := 1, constantValue := 0 }, { name := "serialPersistentFields", type := (.array (.object "java/io/ObjectStreamField")), accessFlags := 26, slot := 2, constantValue := 0 }, { name := "REPL", type := .char, accessFlags := 26, slot := 3, constantValue := 0 }, { name := "CASE_INSENSITIVE_ORDER", type := (.object "java/util/Comparator"), accessFlags := 25, slot := 4, constantValue := 0 }, { name := "LATIN1", type := .byte, accessFlags := 24, slot := 5, constantValue := 0 }, { name := "UTF16", type := .byte, accessFlags := 24, slot := 6, constantValue := 0 }]
  methods := #[k7m0, k7m1, k7m2, k7m3, k7m4, k7m5]
  instanceTypes := #[(.array .byte), .byte, .int, .boolean]
  staticTypes := #[.long, .boolean, (.array (.object "java/io/ObjectStreamField")), .char, (.object "java/util/Comparator"), .byte, .byte]
  resolved := Array.replicate 1451 none
  statics := some 0 }

def pool8 : Array CpInfo := pool [(6, .class_ 8), (1, u "java/lang/Object"), (0, u "<init>"), (0, u "()V"), (1, .class_ 14), (1, u "java/lang/StringUTF16"), (31, u "$assertionsDisabled"), (0, u "Z"), (13, u "HI_BYTE_SHIFT"), (0, u "I"), (2, u "LO_BYTE_SHIFT"), (49, .methodref 12 116), (0, .nameAndType 117 118), (0, u "compress"), (0, u "([CI[BII)I"), (3, u "([CII)[B"), (138, u "coderFromArrayLen"), (0, u "([BI)B"), (106, .class_ 371), (1, u "java/lang/StringUTF16$LinesSpliterator"), (58, u "MAX_LENGTH"), (196, .class_ 628), (0, u "java/lang/StringUTF16$CodePointsSpliterator"), (0, .class_ 630), (0, u "java/lang/StringUTF16$CharsSpliterator")] 4

def k8m0 : Method := { name := "<init>", desc := "()V", sig := { parameters := [], returnType := none }, accessFlags := 0, code := none }
def k8c1 : Code := { maxStack := 2, maxLocals := 2, code := jdk_52_method_15_code, exceptionTable := #[], attributes := #[] }
def k8m1 : Method := { name := "coderFromArrayLen", desc := "([BI)B", sig := { parameters := [(.array .byte), .int], returnType := some .byte }, accessFlags := 8, code := some k8c1 }
def k8c2 : Code := { maxStack := 5, maxLocals := 6, code := jdk_52_method_16_code, exceptionTable := #[], attributes := #[] }
def k8m2 : Method := { name := "compress", desc := "([CII)[B", sig := { parameters := [(.array .char), .int, .int], returnType := some (.array .byte) }, accessFlags := 9, code := some k8c2 }
def k8c3 : Code := { maxStack := 3, maxLocals := 7, code := jdk_52_method_21_code, exceptionTable := #[], attributes := #[] }
def k8m3 : Method := { name := "compress", desc := "([CI[BII)I", sig := { parameters := [(.array .char), .int, (.array .byte), .int, .int], returnType := some .int }, accessFlags := 9, code := some k8c3 }
/-- java/lang/StringUTF16 -/
def k8 : Class := { plain "java/lang/StringUTF16" (some 0) with
  accessFlags := 48
  interfaces := #[]
  cf := some (fileOf pool8 12 #[.nestMembers #[627, 629, 369]] #[{ accessFlags := 0, nameIndex := 9, descriptorIndex := 10, attributes := #[] }, { accessFlags := 8, nameIndex := 261, descriptorIndex := 262, attributes := #[] }, { accessFlags := 9, nameIndex := 117, descriptorIndex := 122, attributes := #[] }, { accessFlags := 9, nameIndex := 117, descriptorIndex := 118, attributes := #[] }] 48 6 #[] #[{ accessFlags := 26, nameIndex := 61, descriptorIndex := 62, attributes := #[] }, { accessFlags := 26, nameIndex := 65, descriptorIndex := 62, attributes := #[] }, { accessFlags := 24, nameIndex := 430, descriptorIndex := 62, attributes := #[] }, { accessFlags := 4120, nameIndex := 46, descriptorIndex := 47, attributes := #[] }])
  fields := #[{ name := "HI_BYTE_SHIFT", type := .int, accessFlags := 26, slot := 0, constantValue := 0 }, { name := "LO_BYTE_SHIFT", type := .int, accessFlags := 26, slot := 1, constantValue := 0 }, { name := "MAX_LENGTH", type := .int, accessFlags := 24, slot := 2, constantValue := 0 }, { name := "$assertionsDisabled", type := .boolean, accessFlags := 4120, slot := 3, constantValue := 0 }]
  methods := #[k8m0, k8m1, k8m2, k8m3]
  instanceTypes := #[]
  staticTypes := #[.int, .int, .int, .boolean]
  resolved := Array.replicate 635 none
  statics := none }

def pool9 : Array CpInfo := pool [(1, .methodref 2 3), (0, .class_ 4), (0, .nameAndType 5 6), (0, u "java/lang/Object"), (0, u "<init>"), (0, u "()V"), (0, .fieldref 8 9), (0, .class_ 10), (0, .nameAndType 11 12), (0, u "com/example/predicant/predicant/format/Cursor"), (0, u "m_nLine"), (0, u "I"), (0, .fieldref 8 14), (0, .nameAndType 15 16), (0, u "m_sText"), (0, u "Ljava/lang/String;"), (0, .fieldref 8 18), (0, .nameAndType 19 12), (0, u "m_nPosition"), (0, .fieldref 8 21), (0, .nameAndType 22 12), (0, u "m_nEnd"), (1, .class_ 26), (1, u "java/lang/String"), (2, .methodref 8 30), (0, .nameAndType 31 32), (0, u "atEnd"), (0, u "()Z"), (0, .methodref 24 34), (0, .nameAndType 35 36), (0, u "charAt"), (0, u "(I)C"), (0, .methodref 8 38), (0, .nameAndType 39 40), (0, u "isAt"), (0, u "(C)Z"), (11, u "()I"), (10, u "take"), (38, u "(ILjava/lang/String;II)V"), (3, u "position")] 28

def k9c0 : Code := { maxStack := 2, maxLocals := 5, code := prog_31_method_1_code, exceptionTable := #[], attributes := #[] }
def k9m0 : Method := { name := "<init>", desc := "(ILjava/lang/String;II)V", sig := { parameters := [.int, (.object "java/lang/String"), .int, .int], returnType := none }, accessFlags := 0, code := some k9c0 }
def k9c1 : Code := { maxStack := 2, maxLocals := 1, code := prog_31_method_2_code, exceptionTable := #[], attributes := #[] }
def k9m1 : Method := { name := "atEnd", desc := "()Z", sig := { parameters := [], returnType := some .boolean }, accessFlags := 0, code := some k9c1 }
def k9c2 : Code := { maxStack := 1, maxLocals := 1, code := prog_31_method_3_code, exceptionTable := #[], attributes := #[] }
def k9m2 : Method := { name := "position", desc := "()I", sig := { parameters := [], returnType := some .int }, accessFlags := 0, code := some k9c2 }
def k9c3 : Code := { maxStack := 2, maxLocals := 2, code := prog_31_method_6_code, exceptionTable := #[], attributes := #[] }
def k9m3 : Method := { name := "isAt", desc := "(C)Z", sig := { parameters := [.char], returnType := some .boolean }, accessFlags := 0, code := some k9c3 }
def k9c4 : Code := { maxStack := 3, maxLocals := 2, code := prog_31_method_7_code, exceptionTable := #[], attributes := #[] }
def k9m4 : Method := { name := "take", desc := "(C)Z", sig := { parameters := [.char], returnType := some .boolean }, accessFlags := 0, code := some k9c4 }
/-- com/example/predicant/predicant/format/Cursor -/
def k9 : Class := { plain "com/example/predicant/predicant/format/Cursor" (some 0) with
  accessFlags := 48
  interfaces := #[]
  cf := some (fileOf pool9 8 #[] #[{ accessFlags := 0, nameIndex := 5, descriptorIndex := 102, attributes := #[] }, { accessFlags := 0, nameIndex := 31, descriptorIndex := 32, attributes := #[] }, { accessFlags := 0, nameIndex := 106, descriptorIndex := 52, attributes := #[] }, { accessFlags := 0, nameIndex := 39, descriptorIndex := 40, attributes := #[] }, { accessFlags := 0, nameIndex := 63, descriptorIndex := 40, attributes := #[] }] 48 2 #[] #[{ accessFlags := 18, nameIndex := 11, descriptorIndex := 12, attributes := #[] }, { accessFlags := 18, nameIndex := 15, descriptorIndex := 16, attributes := #[] }, { accessFlags := 18, nameIndex := 22, descriptorIndex := 12, attributes := #[] }, { accessFlags := 2, nameIndex := 19, descriptorIndex := 12, attributes := #[] }])
  fields := #[{ name := "m_nLine", type := .int, accessFlags := 18, slot := 0, constantValue := 0 }, { name := "m_sText", type := (.object "java/lang/String"), accessFlags := 18, slot := 1, constantValue := 0 }, { name := "m_nEnd", type := .int, accessFlags := 18, slot := 2, constantValue := 0 }, { name := "m_nPosition", type := .int, accessFlags := 2, slot := 3, constantValue := 0 }]
  methods := #[k9m0, k9m1, k9m2, k9m3, k9m4]
  instanceTypes := #[.int, (.object "java/lang/String"), .int, .int]
  staticTypes := #[]
  resolved := Array.replicate 135 none
  statics := none }

def pool10 : Array CpInfo := pool [(1, .class_ 2), (0, u "java/lang/String"), (1, .class_ 6), (1, u "java/lang/Object"), (0, u "<init>"), (0, u "()V"), (0, .methodref 1 10), (0, .nameAndType 11 12), (0, u "checkIndex"), (0, u "(II)V"), (1, .class_ 16), (1, u "java/lang/StringLatin1"), (36, u "([BI)C"), (67, u "$assertionsDisabled"), (0, u "Z"), (98, .class_ 223), (1, u "java/lang/StringLatin1$LinesSpliterator"), (28, u "charAt"), (137, .class_ 391), (0, u "java/lang/StringLatin1$CharsSpliterator")] 3

def k10m0 : Method := { name := "<init>", desc := "()V", sig := { parameters := [], returnType := none }, accessFlags := 0, code := none }
def k10c1 : Code := { maxStack := 2, maxLocals := 2, code := jdk_43_method_2_code, exceptionTable := #[], attributes := #[] }
def k10m1 : Method := { name := "charAt", desc := "([BI)C", sig := { parameters := [(.array .byte), .int], returnType := some .char }, accessFlags := 9, code := some k10c1 }
/-- java/lang/StringLatin1 -/
def k10 : Class := { plain "java/lang/StringLatin1" (some 0) with
  accessFlags := 48
  interfaces := #[]
  cf := some (fileOf pool10 14 #[.nestMembers #[390, 221]] #[{ accessFlags := 0, nameIndex := 7, descriptorIndex := 8, attributes := #[] }, { accessFlags := 9, nameIndex := 252, descriptorIndex := 53, attributes := #[] }] 48 4 #[] #[{ accessFlags := 4120, nameIndex := 121, descriptorIndex := 122, attributes := #[] }])
  fields := #[{ name := "$assertionsDisabled", type := .boolean, accessFlags := 4120, slot := 0, constantValue := 0 }]
  methods := #[k10m0, k10m1]
  instanceTypes := #[]
  staticTypes := #[.boolean]
  resolved := Array.replicate 395 none
  statics := none }

def pool11 : Array CpInfo := pool [(2, .class_ 4), (1, u "java/lang/Object"), (0, u "<init>"), (0, u "()V"), (17, .class_ 26), (1, u "jdk/internal/util/Preconditions"), (6, u "checkIndex"), (21, .class_ 56), (0, u "jdk/internal/util/Preconditions$4"), (57, .class_ 115), (0, u "jdk/internal/util/Preconditions$1"), (7, u "SIOOBE_FORMATTER"), (0, u "Ljava/util/function/BiFunction;"), (0, .class_ 126), (0, u "jdk/internal/util/Preconditions$2"), (3, u "AIOOBE_FORMATTER"), (0, .class_ 132), (0, u "jdk/internal/util/Preconditions$3"), (3, u "IOOBE_FORMATTER"), (41, u "(IILjava/util/function/BiFunction;)I")] 15

def k11m0 : Method := { name := "<init>", desc := "()V", sig := { parameters := [], returnType := none }, accessFlags := 1, code := none }
def k11c1 : Code := { maxStack := 3, maxLocals := 3, code := jdk_41_method_11_code, exceptionTable := #[], attributes := #[] }
def k11m1 : Method := { name := "checkIndex", desc := "(IILjava/util/function/BiFunction;)I", sig := { parameters := [.int, .int, (.object "java/util/function/BiFunction")], returnType := some .int }, accessFlags := 9, code := some k11c1 }
/-- jdk/internal/util/Preconditions -/
def k11 : Class := { plain "jdk/internal/util/Preconditions" (some 0) with
  accessFlags := 33
  interfaces := #[]
  cf := some (fileOf pool11 24 #[.nestMembers #[55, 131, 125, 114]] #[{ accessFlags := 1, nameIndex := 5, descriptorIndex := 6, attributes := #[] }, { accessFlags := 9, nameIndex := 33, descriptorIndex := 178, attributes := #[] }] 33 2 #[] #[{ accessFlags := 25, nameIndex := 123, descriptorIndex := 124, attributes := #[] }, { accessFlags := 25, nameIndex := 130, descriptorIndex := 124, attributes := #[] }, { accessFlags := 25, nameIndex := 136, descriptorIndex := 124, attributes := #[] }])
  fields := #[{ name := "SIOOBE_FORMATTER", type := (.object "java/util/function/BiFunction"), accessFlags := 25, slot := 0, constantValue := 0 }, { name := "AIOOBE_FORMATTER", type := (.object "java/util/function/BiFunction"), accessFlags := 25, slot := 1, constantValue := 0 }, { name := "IOOBE_FORMATTER", type := (.object "java/util/function/BiFunction"), accessFlags := 25, slot := 2, constantValue := 0 }]
  methods := #[k11m0, k11m1]
  instanceTypes := #[]
  staticTypes := #[(.object "java/util/function/BiFunction"), (.object "java/util/function/BiFunction"), (.object "java/util/function/BiFunction")]
  resolved := Array.replicate 194 none
  statics := some 1 }

def pool12 : Array CpInfo := pool [(9, u "<init>"), (6, .class_ 18), (1, u "java/lang/Object"), (0, u "()V"), (1, .class_ 23), (1, u "jdk/internal/util/ArraysSupport"), (0, u "LOG2_ARRAY_LONG_INDEX_SCALE"), (0, u "I"), (2, u "U"), (0, u "Ljdk/internal/misc/Unsafe;"), (8, u "BIG_ENDIAN"), (0, u "Z"), (8, u "LOG2_BYTE_BIT_SIZE"), (4, u "LOG2_ARRAY_INT_INDEX_SCALE"), (54, u "JLA"), (0, u "Ljdk/internal/access/JavaLangAccess;"), (11, u "LOG2_ARRAY_BOOLEAN_INDEX_SCALE"), (9, u "LOG2_ARRAY_BYTE_INDEX_SCALE"), (5, u "LOG2_ARRAY_CHAR_INDEX_SCALE"), (5, u "LOG2_ARRAY_SHORT_INDEX_SCALE"), (18, u "LOG2_ARRAY_FLOAT_INDEX_SCALE"), (24, u "LOG2_ARRAY_DOUBLE_INDEX_SCALE"), (89, u "T_BOOLEAN"), (2, u "T_CHAR"), (1, u "T_FLOAT"), (1, u "T_DOUBLE"), (1, u "T_BYTE"), (1, u "T_SHORT"), (1, u "T_INT"), (1, u "T_LONG"), (1, u "SOFT_MAX_ARRAY_LENGTH")] 83

def k12m0 : Method := { name := "<init>", desc := "()V", sig := { parameters := [], returnType := none }, accessFlags := 2, code := none }
/-- jdk/internal/util/ArraysSupport -/
def k12 : Class := { plain "jdk/internal/util/ArraysSupport" (some 0) with
  accessFlags := 33
  interfaces := #[]
  cf := some (fileOf pool12 21 #[] #[{ accessFlags := 2, nameIndex := 9, descriptorIndex := 19, attributes := #[] }] 33 16 #[] #[{ accessFlags := 24, nameIndex := 28, descriptorIndex := 29, attributes := #[] }, { accessFlags := 26, nameIndex := 38, descriptorIndex := 39, attributes := #[] }, { accessFlags := 25, nameIndex := 121, descriptorIndex := 25, attributes := #[] }, { accessFlags := 25, nameIndex := 131, descriptorIndex := 25, attributes := #[] }, { accessFlags := 25, nameIndex := 137, descriptorIndex := 25, attributes := #[] }, { accessFlags := 25, nameIndex := 143, descriptorIndex := 25, attributes := #[] }, { accessFlags := 25, nameIndex := 53, descriptorIndex := 25, attributes := #[] }, { accessFlags := 25, nameIndex := 24, descriptorIndex := 25, attributes := #[] }, { accessFlags := 25, nameIndex := 162, descriptorIndex := 25, attributes := #[] }, { accessFlags := 25, nameIndex := 187, descriptorIndex := 25, attributes := #[] }, { accessFlags := 26, nameIndex := 48, descriptorIndex := 25, attributes := #[] }, { accessFlags := 25, nameIndex := 277, descriptorIndex := 25, attributes := #[] }, { accessFlags := 25, nameIndex := 280, descriptorIndex := 25, attributes := #[] }, { accessFlags := 25, nameIndex := 282, descriptorIndex := 25, attributes := #[] }, { accessFlags := 25, nameIndex := 284, descriptorIndex := 25, attributes := #[] }, { accessFlags := 25, nameIndex := 286, descriptorIndex := 25, attributes := #[] }, { accessFlags := 25, nameIndex := 288, descriptorIndex := 25, attributes := #[] }, { accessFlags := 25, nameIndex := 290, descriptorIndex := 25, attributes := #[] }, { accessFlags := 25, nameIndex := 292, descriptorIndex := 25, attributes := #[] }, { accessFlags := 26, nameIndex := 108, descriptorIndex := 109, attributes := #[] }, { accessFlags := 25, nameIndex := 294, descriptorIndex := 25, attributes := #[] }])
  fields := #[{ name := "U", type := (.object "jdk/internal/misc/Unsafe"), accessFlags := 24, slot := 0, constantValue := 0 }, { name := "BIG_ENDIAN", type := .boolean, accessFlags := 26, slot := 1, constantValue := 0 }, { name := "LOG2_ARRAY_BOOLEAN_INDEX_SCALE", type := .int, accessFlags := 25, slot := 2, constantValue := 0 }, { name := "LOG2_ARRAY_BYTE_INDEX_SCALE", type := .int, accessFlags := 25, slot := 3, constantValue := 0 }, { name := "LOG2_ARRAY_CHAR_INDEX_SCALE", type := .int, accessFlags := 25, slot := 4, constantValue := 0 }, { name := "LOG2_ARRAY_SHORT_INDEX_SCALE", type := .int, accessFlags := 25, slot := 5, constantValue := 0 }, { name := "LOG2_ARRAY_INT_INDEX_SCALE", type := .int, accessFlags := 25, slot := 6, constantValue := 0 }, { name := "LOG2_ARRAY_LONG_INDEX_SCALE", type := .int, accessFlags := 25, slot := 7, constantValue := 0 }, { name := "LOG2_ARRAY_FLOAT_INDEX_SCALE", type := .int, accessFlags := 25, slot := 8, constantValue := 0 }, { name := "LOG2_ARRAY_DOUBLE_INDEX_SCALE", type := .int, accessFlags := 25, slot := 9, constantValue := 0 }, { name := "LOG2_BYTE_BIT_SIZE", type := .int, accessFlags := 26, slot := 10, constantValue := 0 }, { name := "T_BOOLEAN", type := .int, accessFlags := 25, slot := 11, constantValue := 0 }, { name := "T_CHAR", type := .int, accessFlags := 25, slot := 12, constantValue := 0 }, { name := "T_FLOAT", type := .int, accessFlags := 25, slot := 13, constantValue := 0 }, { name := "T_DOUBLE", type := .int, accessFlags := 25, slot := 14, constantValue := 0 }, { name := "T_BYTE", type := .int, accessFlags := 25, slot := 15, constantValue := 0 }, { name := "T_SHORT", type := .int, accessFlags := 25, slot := 16, constantValue := 0 }, { name := "T_INT", type := .int, accessFlags := 25, slot := 17, constantValue := 0 }, { name := "T_LONG", type := .int, accessFlags := 25, slot := 18, constantValue := 0 }, { name := "JLA", type := (.object "jdk/internal/access/JavaLangAccess"), accessFlags := 26, slot := 19, constantValue := 0 }, { name := "SOFT_MAX_ARRAY_LENGTH", type := .int, accessFlags := 25, slot := 20, constantValue := 0 }]
  methods := #[k12m0]
  instanceTypes := #[]
  staticTypes := #[(.object "jdk/internal/misc/Unsafe"), .boolean, .int, .int, .int, .int, .int, .int, .int, .int, .int, .int, .int, .int, .int, .int, .int, .int, .int, (.object "jdk/internal/access/JavaLangAccess"), .int]
  resolved := Array.replicate 378 none
  statics := none }

def pool13 : Array CpInfo := pool [(1, u "java/lang/Cloneable"), (0, .class_ 1), (0, u "java/lang/Object"), (0, .class_ 3)] 3

/-- java/lang/Cloneable -/
def k13 : Class := { plain "java/lang/Cloneable" (some 0) with
  accessFlags := 1537
  interfaces := #[]
  cf := some (fileOf pool13 2 #[] #[] 1537 4 #[] #[])
  fields := #[]
  methods := #[]
  instanceTypes := #[]
  staticTypes := #[]
  resolved := Array.replicate 8 none
  statics := none }

/-- the primitive byte -/
def k14 : Class := { plain "byte" none with kind := .primitive 'B', accessFlags := 0x411 }
/-- [B -/
def k15 : Class := { plain "[B" (some 0) with kind := .array 14 .byte, interfaces := #[13, 2], accessFlags := 1041 }

/-- the primitive char -/
def k16 : Class := { plain "char" none with kind := .primitive 'C', accessFlags := 0x411 }
/-- [C -/
def k17 : Class := { plain "[C" (some 0) with kind := .array 16 .char, interfaces := #[13, 2], accessFlags := 1041 }

/-- the primitive int -/
def k18 : Class := { plain "int" none with kind := .primitive 'I', accessFlags := 0x411 }
/-- [I -/
def k19 : Class := { plain "[I" (some 0) with kind := .array 18 .int, interfaces := #[13, 2], accessFlags := 1041 }

def heap : Heap := #[{ cls := 7, slots := #[.long 0, .int 1, .null, .int 0, .null, .int 0, .int 0], vm := .statics 7 },
  { cls := 11, slots := #[.null, .null, .null], vm := .statics 11 }]
def classes : Array Class := #[k0, k1, k2, k3, k4, k5, k6, k7, k8, k9, k10, k11, k12, k13, k14, k15, k16, k17, k18, k19]
def interned : List (Array UInt16 × Addr) := []
def slotsUsed : Nat := 10
def theMethod : MethodId := ⟨1, 1⟩
def args0 : Array Value := #[.int 5, .int 7, .int 9, .int 3]
def aboutOver (below : List Frame) : State where
  vm := { classes := classes, interned := interned.toArray }
  heap := heap
  slotsUsed := slotsUsed
  threads := #[{ frames := .invoking theMethod args0 :: below }]
def below0 : List Frame := [.native { method := ⟨0, 0⟩, args := #[] }]
def about1 : State := aboutOver below0
def p0 : Program := .bare "" "" ""
def e0 : Env := launch0.env 0 0 0
theorem w_frames : about1.frames = Frame.invoking theMethod args0 :: below0 := rfl
set_option maxRecDepth 65536 in
theorem w_args : argsFit about1.vm theMethod args0 = true := by decide +kernel
set_option maxRecDepth 65536 in
theorem w_heap : heapFits about1 = true := by decide +kernel
set_option maxRecDepth 65536 in
theorem w_runnable : about1.curStatus? = some .runnable := by decide +kernel
set_option maxRecDepth 65536 in
theorem w_alone : about1.alone = true := by decide +kernel
set_option maxRecDepth 65536 in
theorem w_named : about1.methodNamed? x = some theMethod := by decide +kernel
set_option maxRecDepth 65536 in
theorem w_hears : about1.hears theMethod below0 = true := by decide +kernel
set_option maxRecDepth 65536 in
theorem w_ripe : about1.ripe theMethod args0 below0 = true := by decide +kernel
theorem w_running : about1.status = .running := rfl
set_option maxRecDepth 65536 in
theorem w_room : about1.hasRoom e0.platform room_1 = true :=
  launch0.hasRoom_least _ room_1 (by decide +kernel) (by decide +kernel) (by decide +kernel) (by decide +kernel) (by decide +kernel) (by decide +kernel)
theorem allAtoms_all (ts : List Jvm.Cond) (a : Array Jvm.Value) (st : Jvm.State) : (allAtoms ts).before a st = ts.all (fun c => c.before a st) := by
  induction ts with
  | nil => rfl
  | cons c t ih =>
    show (Jvm.Cond.and c (allAtoms t)).before a st = _
    rw [Jvm.Cond.before_and, ih, List.all_cons]
def words1 : List Jvm.Cond := Jvm.Cond.code x code maxLocals ret :: tables_1
/-- a 'code' word, met by the world's own term for the bytes: nothing is compared byte by byte -/
theorem code_word {y : MethodName} {bytes : ByteArray} {mx : Nat} {rt : Option FieldType} {a : Array Value} {s : State} {m : MethodId} {meth : Method} {c : Code} (h1 : s.methodNamed? y = some m) (h2 : s.vm.method? m = some meth) (h3 : meth.code = some c) (h4 : c.code = bytes)
    (h5 : (c.maxLocals == mx && c.exceptionTable.isEmpty && decide (c.maxStack ≤ mostOperands) && decide (meth.sig.returnType = rt) && !meth.locks && decide (parseMethodDescriptor y.desc = some meth.sig)) = true) : (Jvm.Cond.code y bytes mx rt).before a s = true := by
  simp only [Bool.and_eq_true, beq_iff_eq, Bool.not_eq_true', decide_eq_true_eq] at h5
  obtain ⟨⟨⟨⟨⟨g1, g2⟩, g3⟩, g4⟩, g5⟩, g6⟩ := h5
  simp [Cond.before, Cond.holds, Cond.value, h1, h2, h3, h4, g1, g2, g3, g4, g5, g6]
def isCode : Jvm.Cond → Bool
  | .code _ _ _ _ => true
  | _ => false
theorem all_split {L : List Jvm.Cond} {P : Jvm.Cond → Bool} (h1 : L.all (fun c => isCode c || P c) = true) (h2 : ∀ c ∈ L.filter isCode, P c = true) : L.all P = true := by
  refine List.all_eq_true.mpr fun c hc => ?_
  have h := List.all_eq_true.mp h1 c hc
  rcases Bool.eq_false_or_eq_true (isCode c) with hi | hi
  · exact h2 c (List.mem_filter.mpr ⟨hc, hi⟩)
  · simpa [hi] using h
set_option maxRecDepth 65536 in
theorem w_c0 : (Jvm.Cond.code x code maxLocals ret).before args0 about1 = true := code_word (m := ⟨1, 1⟩) (meth := k1m1) (c := k1c1) (by decide +kernel) rfl rfl rfl (by decide +kernel)
set_option maxRecDepth 65536 in
theorem w_c1 : (Jvm.Cond.code ({ cls := "java/lang/String", name := "<init>", desc := "([C)V" } : Jvm.MethodName) jdk_42_method_3_code (2 : Nat) (Option.none : Option Jvm.ClassFile.FieldType)).before args0 about1 = true := code_word (m := ⟨7, 1⟩) (meth := k7m1) (c := k7c1) (by decide +kernel) rfl rfl rfl (by decide +kernel)
set_option maxRecDepth 65536 in
theorem w_c2 : (Jvm.Cond.code ({ cls := "java/lang/String", name := "<init>", desc := "([CIILjava/lang/Void;)V" } : Jvm.MethodName) jdk_42_method_149_code (6 : Nat) (Option.none : Option Jvm.ClassFile.FieldType)).before args0 about1 = true := code_word (m := ⟨7, 3⟩) (meth := k7m3) (c := k7c3) (by decide +kernel) rfl rfl rfl (by decide +kernel)
set_option maxRecDepth 65536 in
theorem w_c3 : (Jvm.Cond.code ({ cls := "java/lang/Object", name := "<init>", desc := "()V" } : Jvm.MethodName) object_method_1_code (1 : Nat) (Option.none : Option Jvm.ClassFile.FieldType)).before args0 about1 = true := code_word (m := ⟨0, 0⟩) (meth := k0m0) (c := k0c0) (by decide +kernel) rfl rfl rfl (by decide +kernel)
set_option maxRecDepth 65536 in
theorem w_c4 : (Jvm.Cond.code ({ cls := "java/lang/StringUTF16", name := "compress", desc := "([CII)[B" } : Jvm.MethodName) jdk_52_method_16_code (6 : Nat) (Option.some (Jvm.ClassFile.FieldType.array Jvm.ClassFile.FieldType.byte))).before args0 about1 = true := code_word (m := ⟨8, 2⟩) (meth := k8m2) (c := k8c2) (by decide +kernel) rfl rfl rfl (by decide +kernel)
set_option maxRecDepth 65536 in
theorem w_c5 : (Jvm.Cond.code ({ cls := "java/lang/StringUTF16", name := "compress", desc := "([CI[BII)I" } : Jvm.MethodName) jdk_52_method_21_code (7 : Nat) (Option.some Jvm.ClassFile.FieldType.int)).before args0 about1 = true := code_word (m := ⟨8, 3⟩) (meth := k8m3) (c := k8c3) (by decide +kernel) rfl rfl rfl (by decide +kernel)
set_option maxRecDepth 65536 in
theorem w_c6 : (Jvm.Cond.code ({ cls := "java/lang/StringUTF16", name := "coderFromArrayLen", desc := "([BI)B" } : Jvm.MethodName) jdk_52_method_15_code (2 : Nat) (Option.some Jvm.ClassFile.FieldType.byte)).before args0 about1 = true := code_word (m := ⟨8, 1⟩) (meth := k8m1) (c := k8c1) (by decide +kernel) rfl rfl rfl (by decide +kernel)
set_option maxRecDepth 65536 in
theorem w_c7 : (Jvm.Cond.code ({ cls := "com/example/predicant/predicant/format/Cursor", name := "<init>", desc := "(ILjava/lang/String;II)V" } : Jvm.MethodName) prog_31_method_1_code (5 : Nat) (Option.none : Option Jvm.ClassFile.FieldType)).before args0 about1 = true := code_word (m := ⟨9, 0⟩) (meth := k9m0) (c := k9c0) (by decide +kernel) rfl rfl rfl (by decide +kernel)
set_option maxRecDepth 65536 in
theorem w_c8 : (Jvm.Cond.code ({ cls := "com/example/predicant/predicant/format/Cursor", name := "atEnd", desc := "()Z" } : Jvm.MethodName) prog_31_method_2_code (1 : Nat) (Option.some Jvm.ClassFile.FieldType.boolean)).before args0 about1 = true := code_word (m := ⟨9, 1⟩) (meth := k9m1) (c := k9c1) (by decide +kernel) rfl rfl rfl (by decide +kernel)
set_option maxRecDepth 65536 in
theorem w_c9 : (Jvm.Cond.code ({ cls := "com/example/predicant/predicant/format/Cursor", name := "take", desc := "(C)Z" } : Jvm.MethodName) prog_31_method_7_code (2 : Nat) (Option.some Jvm.ClassFile.FieldType.boolean)).before args0 about1 = true := code_word (m := ⟨9, 4⟩) (meth := k9m4) (c := k9c4) (by decide +kernel) rfl rfl rfl (by decide +kernel)
set_option maxRecDepth 65536 in
theorem w_c10 : (Jvm.Cond.code ({ cls := "com/example/predicant/predicant/format/Cursor", name := "isAt", desc := "(C)Z" } : Jvm.MethodName) prog_31_method_6_code (2 : Nat) (Option.some Jvm.ClassFile.FieldType.boolean)).before args0 about1 = true := code_word (m := ⟨9, 3⟩) (meth := k9m3) (c := k9c3) (by decide +kernel) rfl rfl rfl (by decide +kernel)
set_option maxRecDepth 65536 in
theorem w_c11 : (Jvm.Cond.code ({ cls := "com/example/predicant/predicant/format/Cursor", name := "position", desc := "()I" } : Jvm.MethodName) prog_31_method_3_code (1 : Nat) (Option.some Jvm.ClassFile.FieldType.int)).before args0 about1 = true := code_word (m := ⟨9, 2⟩) (meth := k9m2) (c := k9c2) (by decide +kernel) rfl rfl rfl (by decide +kernel)
set_option maxRecDepth 65536 in
theorem w_c12 : (Jvm.Cond.code ({ cls := "java/lang/String", name := "charAt", desc := "(I)C" } : Jvm.MethodName) jdk_42_method_56_code (2 : Nat) (Option.some Jvm.ClassFile.FieldType.char)).before args0 about1 = true := code_word (m := ⟨7, 2⟩) (meth := k7m2) (c := k7c2) (by decide +kernel) rfl rfl rfl (by decide +kernel)
set_option maxRecDepth 65536 in
theorem w_c13 : (Jvm.Cond.code ({ cls := "java/lang/String", name := "isLatin1", desc := "()Z" } : Jvm.MethodName) jdk_42_method_154_code (1 : Nat) (Option.some Jvm.ClassFile.FieldType.boolean)).before args0 about1 = true := code_word (m := ⟨7, 4⟩) (meth := k7m4) (c := k7c4) (by decide +kernel) rfl rfl rfl (by decide +kernel)
set_option maxRecDepth 65536 in
theorem w_c14 : (Jvm.Cond.code ({ cls := "java/lang/StringLatin1", name := "charAt", desc := "([BI)C" } : Jvm.MethodName) jdk_43_method_2_code (2 : Nat) (Option.some Jvm.ClassFile.FieldType.char)).before args0 about1 = true := code_word (m := ⟨10, 1⟩) (meth := k10m1) (c := k10c1) (by decide +kernel) rfl rfl rfl (by decide +kernel)
set_option maxRecDepth 65536 in
theorem w_c15 : (Jvm.Cond.code ({ cls := "java/lang/String", name := "checkIndex", desc := "(II)V" } : Jvm.MethodName) jdk_42_method_155_code (2 : Nat) (Option.none : Option Jvm.ClassFile.FieldType)).before args0 about1 = true := code_word (m := ⟨7, 5⟩) (meth := k7m5) (c := k7c5) (by decide +kernel) rfl rfl rfl (by decide +kernel)
set_option maxRecDepth 65536 in
theorem w_c16 : (Jvm.Cond.code ({ cls := "jdk/internal/util/Preconditions", name := "checkIndex", desc := "(IILjava/util/function/BiFunction;)I" } : Jvm.MethodName) jdk_41_method_11_code (3 : Nat) (Option.some Jvm.ClassFile.FieldType.int)).before args0 about1 = true := code_word (m := ⟨11, 1⟩) (meth := k11m1) (c := k11c1) (by decide +kernel) rfl rfl rfl (by decide +kernel)
def codes1 : List Jvm.Cond := [Jvm.Cond.code x code maxLocals ret, Jvm.Cond.code ({ cls := "java/lang/String", name := "<init>", desc := "([C)V" } : Jvm.MethodName) jdk_42_method_3_code (2 : Nat) (Option.none : Option Jvm.ClassFile.FieldType), Jvm.Cond.code ({ cls := "java/lang/String", name := "<init>", desc := "([CIILjava/lang/Void;)V" } : Jvm.MethodName) jdk_42_method_149_code (6 : Nat) (Option.none : Option Jvm.ClassFile.FieldType), Jvm.Cond.code ({ cls := "java/lang/Object", name := "<init>", desc := "()V" } : Jvm.MethodName) object_method_1_code (1 : Nat) (Option.none : Option Jvm.ClassFile.FieldType), Jvm.Cond.code ({ cls := "java/lang/StringUTF16", name := "compress", desc := "([CII)[B" } : Jvm.MethodName) jdk_52_method_16_code (6 : Nat) (Option.some (Jvm.ClassFile.FieldType.array Jvm.ClassFile.FieldType.byte)), Jvm.Cond.code ({ cls := "java/lang/StringUTF16", name := "compress", desc := "([CI[BII)I" } : Jvm.MethodName) jdk_52_method_21_code (7 : Nat) (Option.some Jvm.ClassFile.FieldType.int), Jvm.Cond.code ({ cls := "java/lang/StringUTF16", name := "coderFromArrayLen", desc := "([BI)B" } : Jvm.MethodName) jdk_52_method_15_code (2 : Nat) (Option.some Jvm.ClassFile.FieldType.byte), Jvm.Cond.code ({ cls := "com/example/predicant/predicant/format/Cursor", name := "<init>", desc := "(ILjava/lang/String;II)V" } : Jvm.MethodName) prog_31_method_1_code (5 : Nat) (Option.none : Option Jvm.ClassFile.FieldType), Jvm.Cond.code ({ cls := "com/example/predicant/predicant/format/Cursor", name := "atEnd", desc := "()Z" } : Jvm.MethodName) prog_31_method_2_code (1 : Nat) (Option.some Jvm.ClassFile.FieldType.boolean), Jvm.Cond.code ({ cls := "com/example/predicant/predicant/format/Cursor", name := "take", desc := "(C)Z" } : Jvm.MethodName) prog_31_method_7_code (2 : Nat) (Option.some Jvm.ClassFile.FieldType.boolean), Jvm.Cond.code ({ cls := "com/example/predicant/predicant/format/Cursor", name := "isAt", desc := "(C)Z" } : Jvm.MethodName) prog_31_method_6_code (2 : Nat) (Option.some Jvm.ClassFile.FieldType.boolean), Jvm.Cond.code ({ cls := "com/example/predicant/predicant/format/Cursor", name := "position", desc := "()I" } : Jvm.MethodName) prog_31_method_3_code (1 : Nat) (Option.some Jvm.ClassFile.FieldType.int), Jvm.Cond.code ({ cls := "java/lang/String", name := "charAt", desc := "(I)C" } : Jvm.MethodName) jdk_42_method_56_code (2 : Nat) (Option.some Jvm.ClassFile.FieldType.char), Jvm.Cond.code ({ cls := "java/lang/String", name := "isLatin1", desc := "()Z" } : Jvm.MethodName) jdk_42_method_154_code (1 : Nat) (Option.some Jvm.ClassFile.FieldType.boolean), Jvm.Cond.code ({ cls := "java/lang/StringLatin1", name := "charAt", desc := "([BI)C" } : Jvm.MethodName) jdk_43_method_2_code (2 : Nat) (Option.some Jvm.ClassFile.FieldType.char), Jvm.Cond.code ({ cls := "java/lang/String", name := "checkIndex", desc := "(II)V" } : Jvm.MethodName) jdk_42_method_155_code (2 : Nat) (Option.none : Option Jvm.ClassFile.FieldType), Jvm.Cond.code ({ cls := "jdk/internal/util/Preconditions", name := "checkIndex", desc := "(IILjava/util/function/BiFunction;)I" } : Jvm.MethodName) jdk_41_method_11_code (3 : Nat) (Option.some Jvm.ClassFile.FieldType.int)]
set_option maxRecDepth 65536 in
theorem codes_eq : words1.filter isCode = codes1 := rfl
theorem w_codes : ∀ c ∈ words1.filter isCode, c.before args0 about1 = true := by
  rw [codes_eq]
  intro c hc
  simp only [codes1, List.mem_cons, List.not_mem_nil, or_false] at hc
  rcases hc with rfl | rfl | rfl | rfl | rfl | rfl | rfl | rfl | rfl | rfl | rfl | rfl | rfl | rfl | rfl | rfl | rfl
  · exact w_c0
  · exact w_c1
  · exact w_c2
  · exact w_c3
  · exact w_c4
  · exact w_c5
  · exact w_c6
  · exact w_c7
  · exact w_c8
  · exact w_c9
  · exact w_c10
  · exact w_c11
  · exact w_c12
  · exact w_c13
  · exact w_c14
  · exact w_c15
  · exact w_c16
set_option maxRecDepth 65536 in
theorem w_t1 : (words1.take 24).all (fun c => isCode c || c.before args0 about1) = true := by decide +kernel
set_option maxRecDepth 65536 in
theorem w_t2 : ((words1.drop 24).take 24).all (fun c => isCode c || c.before args0 about1) = true := by decide +kernel
set_option maxRecDepth 65536 in
theorem w_t3 : (((words1.drop 24).drop 24).take 24).all (fun c => isCode c || c.before args0 about1) = true := by decide +kernel
set_option maxRecDepth 65536 in
theorem w_t4 : (((words1.drop 24).drop 24).drop 24).all (fun c => isCode c || c.before args0 about1) = true := by decide +kernel
theorem w_tables : (allAtoms (Jvm.Cond.code x code maxLocals ret :: tables_1)).before args0 about1 = true := by
  rw [allAtoms_all]
  show words1.all (fun c => c.before args0 about1) = true
  refine all_split ?_ w_codes
  rw [← List.take_append_drop 24 words1, List.all_append, w_t1, ← List.take_append_drop 24 (words1.drop 24), List.all_append, w_t2, ← List.take_append_drop 24 ((words1.drop 24).drop 24), List.all_append, w_t3, w_t4]
  rfl
set_option maxRecDepth 65536 in
theorem w_rest : rest_1_c.before args0 about1 = true := by decide +kernel
set_option maxRecDepth 65536 in
theorem w_case : (Jvm.Cond.and given_1 narrow_1).before args0 about1 = true := by decide +kernel
theorem w_applies : (headSpec (Jvm.Cond.code x code maxLocals ret :: tables_1) room_1).applies x e0.platform about1 = true :=
  (Spec.applies_iff w_frames).mpr ⟨w_running, w_runnable, w_alone, w_named, w_hears, w_ripe, w_room, w_tables⟩
theorem atStart : AtStart classFile x code maxLocals ret World_1 tables_1 room_1 Calls_1 rest_1 Pre_1 launch0 p0 e0 about1 theMethod args0 below0 :=
  ⟨lists_1, trivial, launch0.admits_env _ _ _, launch0.least_env, fairChoices_fair.cas, fairChoices_fair.clock, w_frames, w_args, w_heap, w_applies, trivial, w_rest, w_case⟩
end start1
theorem witness_1 : WitnessClaimed_1 := ⟨start1.p0, start1.e0, start1.about1, start1.theMethod, start1.args0, start1.below0, start1.atStart⟩
end Jvm.Pilot.@@N@@
