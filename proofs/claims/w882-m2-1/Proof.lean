import JvmDerived
import JvmDerived.Pilot.@@N@@Statement
import JvmDerived.Pilot.@@N@@Code
set_option linter.unusedVariables false
set_option linter.unusedSimpArgs false
@@BLOCK:NumsL.lean.txt@@
/- laws to paste: Road.backV (cut by pick.py; bodies as the Statement names them) -/
namespace Jvm.Pilot.@@N@@
namespace StrChars
open Jvm Sem ClassFile Op Lib Jvm.Stand Jvm.Free.XT Jvm.Free.ALB Jvm.Free.JM Jvm.Free
open Jvm.Lib.Cold (StaticIs)
/-- a char array whose places are chars -/
def Ch (a : Addr) (A : Cell) (U : State) : Prop := Arr .char a A U ∧ Typed .char A
theorem Ch.mv {a : Addr} {A : Cell} {U U' : State} (h : Ch a A U) (hal : U.vm.Alike U'.vm) (hh : U'.heap = U.heap) : Ch a A U' := ⟨h.1.mv hal hh, h.2⟩
theorem Ch.keep {a : Addr} {A : Cell} {U U' : State} (h : Ch a A U) (hal : U.vm.Alike U'.vm) (hk : U'.heap[a]? = some A) : Ch a A U' := ⟨h.1.keep hal hk, h.2⟩
/-- what place i of a char[]'s cell holds -/
def cv (A : Cell) (i : Nat) : Int32 := match A.slots[i]? with | some (.int x) => x | _ => 0
theorem Ch.get {a : Addr} {A : Cell} {U : State} (h : Ch a A U) {i : Nat} (hi : i < A.slots.size) : A.slots[i]? = some (.int (cv A i)) := by
  have e := Array.getElem?_eq_getElem hi
  have f := h.2 i _ e
  unfold cv; rw [e]
  generalize A.slots[i] = v at f
  cases v <;> simp [fits] at f ⊢
/-- the byte that i2b leaves of a char -/
def lo8 (x : Int32) : Int32 := x.toInt8.toInt32
theorem fits_lo8 (y : Int32) : fits .byte (.int (lo8 y)) = true := by
  have h1 := y.toInt8.le_toInt
  have h2 := y.toInt8.toInt_lt
  simp only [lo8, fits, Bool.and_eq_true, decide_eq_true_eq, Int32.le_iff_toInt_le, Int8.toInt_toInt32, show (-128 : Int32).toInt = -128 from by decide, show (127 : Int32).toInt = 127 from by decide]
  omega
/-- A' is A but that each place j of lo .. hi - 1 holds f j -/
def Laid (A A' : Cell) (lo hi : Nat) (f : Nat → Value) : Prop := A'.cls = A.cls ∧ A'.vm = A.vm ∧ A'.slots.size = A.slots.size ∧ ∀ i, A'.slots[i]? = if lo ≤ i ∧ i < hi then some (f i) else A.slots[i]?
theorem Laid.zero (A : Cell) (lo : Nat) (f : Nat → Value) : Laid A A lo (lo + 0) f := ⟨rfl, rfl, rfl, fun i => by rw [if_neg (by omega)]⟩
theorem Laid.step {A Ak : Cell} {lo k : Nat} {f : Nat → Value} {v : Value} (h : Laid A Ak lo k f) (hlo : lo ≤ k) (hk : k < Ak.slots.size) (hv : v = f k) : Laid A (Ak.setSlot k v) lo (k + 1) f := by
  refine ⟨h.1, h.2.1, by simpa [Cell.setSlot] using h.2.2.1, fun i => ?_⟩
  by_cases e : k = i
  · subst e; rw [Cell.slots_setSlot_self v hk, if_pos (by omega), hv]
  · rw [Cell.slots_setSlot_ne v e, h.2.2.2 i]
    by_cases q : lo ≤ i ∧ i < k
    · rw [if_pos q, if_pos (by omega)]
    · rw [if_neg q, if_neg (by omega)]
def U16 : String := "java/lang/StringUTF16"
namespace Cmp5
def yN : MethodName := ⟨"java/lang/StringUTF16", "compress", "([CI[BII)I"⟩
abbrev yB : ByteArray := jdk_52_method_21_code
theorem d0 : decode yB 0 = .ok (.iconst 0, 1) := by decide +kernel
theorem d1 : decode yB 1 = .ok (.istore 5, 2) := by decide +kernel
theorem d3 : decode yB 3 = .ok (.iload 5, 2) := by decide +kernel
theorem d5 : decode yB 5 = .ok (.iload 4, 2) := by decide +kernel
theorem d7 : decode yB 7 = .ok (.if_icmp (.ge) 37, 3) := by decide +kernel
theorem d10 : decode yB 10 = .ok (.aload_n 0, 1) := by decide +kernel
theorem d11 : decode yB 11 = .ok (.iload_n 1, 1) := by decide +kernel
theorem d12 : decode yB 12 = .ok (.caload, 1) := by decide +kernel
theorem d13 : decode yB 13 = .ok (.istore 6, 2) := by decide +kernel
theorem d15 : decode yB 15 = .ok (.iload 6, 2) := by decide +kernel
theorem d17 : decode yB 17 = .ok (.sipush 255, 3) := by decide +kernel
theorem d20 : decode yB 20 = .ok (.if_icmp (.le) 6, 3) := by decide +kernel
theorem d26 : decode yB 26 = .ok (.aload_n 2, 1) := by decide +kernel
theorem d27 : decode yB 27 = .ok (.iload_n 3, 1) := by decide +kernel
theorem d28 : decode yB 28 = .ok (.iload 6, 2) := by decide +kernel
theorem d30 : decode yB 30 = .ok (.i2b, 1) := by decide +kernel
theorem d31 : decode yB 31 = .ok (.bastore, 1) := by decide +kernel
theorem d32 : decode yB 32 = .ok (.iinc 1 1, 3) := by decide +kernel
theorem d35 : decode yB 35 = .ok (.iinc 3 1, 3) := by decide +kernel
theorem d38 : decode yB 38 = .ok (.iinc 5 1, 3) := by decide +kernel
theorem d41 : decode yB 41 = .ok (.goto (-38), 3) := by decide +kernel
theorem d44 : decode yB 44 = .ok (.iload 4, 2) := by decide +kernel
theorem d46 : decode yB 46 = .ok (.ireturn, 1) := by decide +kernel
def site : List Cond := []
def tab : Cond := tabOf yN yB 7 (some .int) site
def P (b : Addr) (A : Cell) (d : Addr) (B : Cell) (o q len : Nat) (args : Array Value) (s : State) : Prop := args = #[.ref b, .int (Int32.ofNat o), .ref d, .int (Int32.ofNat q), .int (Int32.ofNat len)] ∧ Ch b A s ∧ Arr .byte d B s ∧ b ≠ d ∧ o + len ≤ A.slots.size ∧ q + len ≤ B.slots.size ∧ ∀ i, i < len → ¬ 255 < cv A (o + i)
def E (b : Addr) (A : Cell) (d : Addr) (B : Cell) (o q len : Nat) (r : Option Value) (s u : State) : Prop := r = some (.int (Int32.ofNat len)) ∧ ∃ B', Put d B' s u ∧ Laid B B' q (q + len) (fun j => Value.int (lo8 (cv A (o + (j - q)))))
/-- no char of the range above 255: len; the places written hold each char's low byte -/
theorem law (l : Launch) (b : Addr) (A : Cell) (d : Addr) (B : Cell) (o q len : Nat) : Law l yN 5 5 0 0 yB 7 (some .int) site (P b A d B o q len) (E b A d B o q len) (copyLocs d q len) 0 0 := by
  refine Law.of_walk (plainFor_of_name (by decide +kernel)) (by decide +kernel) (by decide +kernel) (by decide) (fun _ _ h => by rw [h.1]; rfl) (fun _ U U' hal hh h => ⟨h.1, h.2.1.mv hal hh, h.2.2.1.mv hal hh, h.2.2.2⟩) (fun r U U' V V' h1 hal h2 h => ⟨h.1, h.2.elim fun B' q => ⟨B', q.1.mv h1 h2, q.2⟩⟩) ?_
  intro p e s m args below meth c s₁ X0 hexec hbytes hml hret hlk hnm hown hh0 W hP
  obtain ⟨rfl, hA, hB, hne, l1, l2, hp⟩ := hP
  have c1 : Steps p.tables e below (s₁.setTop (entryFrame m #[.ref b, .int (Int32.ofNat o), .ref d, .int (Int32.ofNat q), .int (Int32.ofNat len)] 7)) (s₁.setTop (mkF m 0 #[.val (.ref b), .val (.int (Int32.ofNat o)), .val (.ref d), .val (.int (Int32.ofNat q)), .val (.int (Int32.ofNat len)), .unset, .unset] [])) := entry rfl
  have hA0 := hA.1.mv X0.warmed.alike hh0
  have hB0 := hB.mv X0.warmed.alike hh0
  have a31 := hA.1.2.2.2
  have c2 : Steps p.tables e below (s₁.setTop (entryFrame m #[.ref b, .int (Int32.ofNat o), .ref d, .int (Int32.ofNat q), .int (Int32.ofNat len)] 7)) (s₁.setTop (mkF m 3 #[.val (.ref b), .val (.int (Int32.ofNat o)), .val (.ref d), .val (.int (Int32.ofNat q)), .val (.int (Int32.ofNat len)), .val (.int 0), .unset] [])) := c1.trans (by
    refine iconstV X0.here hexec rfl 0 (hb hbytes d0) (by decide) ?_
    refine XS.istore X0.here hexec rfl (hb hbytes d1) rfl rfl ?_
    exact Steps.refl _)
  have loop : ∀ (r i : Nat), i + r = len → ∀ (z : Slot), (z = .unset ∨ ∃ w, z = .val w ∧ w.category = 1) → ∀ (Tl : State) (Bk : Cell), Stand p l e { frames := 0, locals := 0, cells := 0, slots := 0 } s m #[.ref b, .int (Int32.ofNat o), .ref d, .int (Int32.ofNat q), .int (Int32.ofNat len)] below meth c Tl ([] ++ copyLocs d q i) 0 0 → Put d Bk s₁ Tl → Laid B Bk q (q + i) (fun j => Value.int (lo8 (cv A (o + (j - q))))) →
      Steps p.tables e below (s₁.setTop (entryFrame m #[.ref b, .int (Int32.ofNat o), .ref d, .int (Int32.ofNat q), .int (Int32.ofNat len)] 7)) (Tl.setTop (mkF m 3 #[.val (.ref b), .val (.int (Int32.ofNat (o + i))), .val (.ref d), .val (.int (Int32.ofNat (q + i))), .val (.int (Int32.ofNat len)), .val (.int (Int32.ofNat i)), z] [])) → ∃ (T' : State) (B' : Cell) (z' : Slot), Stand p l e { frames := 0, locals := 0, cells := 0, slots := 0 } s m #[.ref b, .int (Int32.ofNat o), .ref d, .int (Int32.ofNat q), .int (Int32.ofNat len)] below meth c T' ([] ++ copyLocs d q len) 0 0 ∧ Put d B' s₁ T' ∧ Laid B B' q (q + len) (fun j => Value.int (lo8 (cv A (o + (j - q))))) ∧
      Steps p.tables e below (s₁.setTop (entryFrame m #[.ref b, .int (Int32.ofNat o), .ref d, .int (Int32.ofNat q), .int (Int32.ofNat len)] 7)) (T'.setTop (mkF m 3 #[.val (.ref b), .val (.int (Int32.ofNat (o + len))), .val (.ref d), .val (.int (Int32.ofNat (q + len))), .val (.int (Int32.ofNat len)), .val (.int (Int32.ofNat len)), z'] [])) := by
    intro r
    induction r with
    | zero =>
      intro i hi z hz Tl Bk Xl pl fl cl
      have hil : i = len := by omega
      rw [hil] at Xl fl cl
      exact ⟨Tl, Bk, z, Xl, pl, fl, cl⟩
    | succ r ih =>
      intro i hi z hz Tl Bk Xl pl fl cl
      have all := X0.warmed.alike.symm.trans Xl.warmed.alike
      have hAl := hA0.keep all (pl.other hne hA0.1)
      have hBk := hB0.like all pl.1 fl.1 fl.2.1 fl.2.2.1
      have hlt : q + i < Bk.slots.size := by rw [fl.2.2.1]; omega
      have c3 : Steps p.tables e below (s₁.setTop (entryFrame m #[.ref b, .int (Int32.ofNat o), .ref d, .int (Int32.ofNat q), .int (Int32.ofNat len)] 7)) (Tl.setTop (mkF m 12 #[.val (.ref b), .val (.int (Int32.ofNat (o + i))), .val (.ref d), .val (.int (Int32.ofNat (q + i))), .val (.int (Int32.ofNat len)), .val (.int (Int32.ofNat i)), z] [.int (Int32.ofNat (o + i)), .ref b])) := cl.trans (by
        refine XS.iload Xl.here hexec rfl (hb hbytes d3) rfl ?_
        refine XS.iload Xl.here hexec rfl (hb hbytes d5) rfl ?_
        refine XS.icmpNo Xl.here hexec rfl (hb hbytes d7) rfl (ii_ge_f (lt32 (by omega) (by omega))) ?_
        refine XS.aloadN Xl.here hexec rfl (hb hbytes d10) rfl rfl ?_
        refine XS.iloadN Xl.here hexec rfl (hb hbytes d11) rfl ?_
        exact Steps.refl _)
      have c4 : Steps p.tables e below (s₁.setTop (entryFrame m #[.ref b, .int (Int32.ofNat o), .ref d, .int (Int32.ofNat q), .int (Int32.ofNat len)] 7)) (Tl.setTop (mkF m 13 #[.val (.ref b), .val (.int (Int32.ofNat (o + i))), .val (.ref d), .val (.int (Int32.ofNat (q + i))), .val (.int (Int32.ofNat len)), .val (.int (Int32.ofNat i)), z] [.int (cv A (o + i))])) := c3.trans (by
        refine Xl.aget hexec hAl rfl (hA.get (i := o + i) (by omega)) rfl rfl (hb hbytes d12) ?_
        exact Steps.refl _)
      have c5 : Steps p.tables e below (s₁.setTop (entryFrame m #[.ref b, .int (Int32.ofNat o), .ref d, .int (Int32.ofNat q), .int (Int32.ofNat len)] 7)) (Tl.setTop (mkF m 15 #[.val (.ref b), .val (.int (Int32.ofNat (o + i))), .val (.ref d), .val (.int (Int32.ofNat (q + i))), .val (.int (Int32.ofNat len)), .val (.int (Int32.ofNat i)), .val (.int (cv A (o + i)))] [])) := c4.trans (by
        refine XS.istoreS Xl.here hexec rfl (hb hbytes d13) rfl rfl hz ?_
        exact Steps.refl _)
      have c6 : Steps p.tables e below (s₁.setTop (entryFrame m #[.ref b, .int (Int32.ofNat o), .ref d, .int (Int32.ofNat q), .int (Int32.ofNat len)] 7)) (Tl.setTop (mkF m 31 #[.val (.ref b), .val (.int (Int32.ofNat (o + i))), .val (.ref d), .val (.int (Int32.ofNat (q + i))), .val (.int (Int32.ofNat len)), .val (.int (Int32.ofNat i)), .val (.int (cv A (o + i)))] [.int (lo8 (cv A (o + i))), .int (Int32.ofNat (q + i)), .ref d])) := c5.trans (by
        refine XS.iload Xl.here hexec rfl (hb hbytes d15) rfl ?_
        refine sipushV Xl.here hexec rfl 255 (hb hbytes d17) (by decide) ?_
        refine XS.icmpYes Xl.here hexec rfl (pc0 := 20) rfl (hb hbytes d20) rfl (ii_le_t (hp i (by omega))) (by decide) rfl ?_
        refine XS.aloadN Xl.here hexec rfl (hb hbytes d26) rfl rfl ?_
        refine XS.iloadN Xl.here hexec rfl (hb hbytes d27) rfl ?_
        refine XS.iload Xl.here hexec rfl (hb hbytes d28) rfl ?_
        refine i2b Xl.here hexec rfl (hb hbytes d30) rfl ?_
        exact Steps.refl _)
      obtain ⟨T7, X7, p7, st7⟩ := Xl.aput hexec hBk rfl hlt rfl (fits_lo8 (cv A (o + i))) (g := (mkF m 31 #[.val (.ref b), .val (.int (Int32.ofNat (o + i))), .val (.ref d), .val (.int (Int32.ofNat (q + i))), .val (.int (Int32.ofNat len)), .val (.int (Int32.ofNat i)), .val (.int (cv A (o + i)))] [.int (lo8 (cv A (o + i))), .int (Int32.ofNat (q + i)), .ref d])) rfl (rest := []) rfl (hb hbytes d31)
      have c8 : Steps p.tables e below (s₁.setTop (entryFrame m #[.ref b, .int (Int32.ofNat o), .ref d, .int (Int32.ofNat q), .int (Int32.ofNat len)] 7)) (T7.setTop (mkF m 32 #[.val (.ref b), .val (.int (Int32.ofNat (o + i))), .val (.ref d), .val (.int (Int32.ofNat (q + i))), .val (.int (Int32.ofNat len)), .val (.int (Int32.ofNat i)), .val (.int (cv A (o + i)))] [])) := c6.trans (st7 _ (Steps.refl _))
      have c9 : Steps p.tables e below (s₁.setTop (entryFrame m #[.ref b, .int (Int32.ofNat o), .ref d, .int (Int32.ofNat q), .int (Int32.ofNat len)] 7)) (T7.setTop (mkF m 3 #[.val (.ref b), .val (.int (Int32.ofNat (o + i) + 1)), .val (.ref d), .val (.int (Int32.ofNat (q + i) + 1)), .val (.int (Int32.ofNat len)), .val (.int (Int32.ofNat i + 1)), .val (.int (cv A (o + i)))] [])) := c8.trans (by
        refine iincV X7.here hexec rfl 1 (hb hbytes d32) (by decide) rfl rfl ?_
        refine iincV X7.here hexec rfl 1 (hb hbytes d35) (by decide) rfl rfl ?_
        refine iincV X7.here hexec rfl 1 (hb hbytes d38) (by decide) rfl rfl ?_
        refine XS.goto X7.here hexec rfl (pc0 := 41) rfl (hb hbytes d41) (by decide) rfl ?_
        exact Steps.refl _)
      have c10 : Steps p.tables e below (s₁.setTop (entryFrame m #[.ref b, .int (Int32.ofNat o), .ref d, .int (Int32.ofNat q), .int (Int32.ofNat len)] 7)) (T7.setTop (mkF m 3 #[.val (.ref b), .val (.int (Int32.ofNat (o + (i + 1)))), .val (.ref d), .val (.int (Int32.ofNat (q + (i + 1)))), .val (.int (Int32.ofNat len)), .val (.int (Int32.ofNat (i + 1))), .val (.int (cv A (o + i)))] [])) := by
        have := c9
        rw [succ32, succ32, succ32] at this
        exact this
      exact ih (i + 1) (by omega) _ (Or.inr ⟨_, rfl, rfl⟩) T7 _ (by rw [copyLocs_step, ← List.append_assoc]; exact X7) (pl.trans p7) (fl.step (by omega) hlt (by simp)) c10
  obtain ⟨T9, B9, z9, X9, p9, f9, g9⟩ := loop len 0 (by omega) .unset (Or.inl rfl) s₁ B (by simpa [copyLocs] using X0) ⟨hB0.1, fun _ _ => rfl, rfl⟩ (Laid.zero _ _ _) c2
  have c11 : Steps p.tables e below (s₁.setTop (entryFrame m #[.ref b, .int (Int32.ofNat o), .ref d, .int (Int32.ofNat q), .int (Int32.ofNat len)] 7)) (T9.setTop (mkF m 46 #[.val (.ref b), .val (.int (Int32.ofNat (o + len))), .val (.ref d), .val (.int (Int32.ofNat (q + len))), .val (.int (Int32.ofNat len)), .val (.int (Int32.ofNat len)), z9] [.int (Int32.ofNat len)])) := g9.trans (by
    refine XS.iload X9.here hexec rfl (hb hbytes d3) rfl ?_
    refine XS.iload X9.here hexec rfl (hb hbytes d5) rfl ?_
    refine XS.icmpYes X9.here hexec rfl (pc0 := 7) rfl (hb hbytes d7) rfl (ii_ge_t (nlt32 (by omega) (Nat.le_refl _))) (by decide) rfl ?_
    refine XS.iload X9.here hexec rfl (hb hbytes d44) rfl ?_
    exact Steps.refl _)
  exact ⟨T9, some (.int (Int32.ofNat len)), _, _, _, X9, by simp, rfl, rfl, (fun h => by cases h), ⟨rfl, B9, p9.from hh0, f9⟩, fun fs hl => c11.trans (X9.ireturnOut hexec hret rfl (Or.inl rfl) (hb hbytes d46) hl)⟩
end Cmp5
namespace Cmp3
def yN : MethodName := ⟨"java/lang/StringUTF16", "compress", "([CII)[B"⟩
abbrev yB : ByteArray := jdk_52_method_16_code
theorem d0 : decode yB 0 = .ok (.iload_n 2, 1) := by decide +kernel
theorem d1 : decode yB 1 = .ok (.newarray .byte, 2) := by decide +kernel
theorem d3 : decode yB 3 = .ok (.astore_n 3, 1) := by decide +kernel
theorem d4 : decode yB 4 = .ok (.aload_n 0, 1) := by decide +kernel
theorem d5 : decode yB 5 = .ok (.iload_n 1, 1) := by decide +kernel
theorem d6 : decode yB 6 = .ok (.aload_n 3, 1) := by decide +kernel
theorem d7 : decode yB 7 = .ok (.iconst 0, 1) := by decide +kernel
theorem d8 : decode yB 8 = .ok (.iload_n 2, 1) := by decide +kernel
theorem d9 : decode yB 9 = .ok (.invokestatic 115, 3) := by decide +kernel
theorem d12 : decode yB 12 = .ok (.istore 4, 2) := by decide +kernel
theorem d14 : decode yB 14 = .ok (.iload 4, 2) := by decide +kernel
theorem d16 : decode yB 16 = .ok (.iload_n 2, 1) := by decide +kernel
theorem d17 : decode yB 17 = .ok (.if_icmp (.eq) 40, 3) := by decide +kernel
theorem d57 : decode yB 57 = .ok (.aload_n 3, 1) := by decide +kernel
theorem d58 : decode yB 58 = .ok (.areturn, 1) := by decide +kernel
def site : List Cond := [.arrayClass .byte, Cmp5.tab] ++ staticW U16 115 Cmp5.yN
def tab : Cond := tabOf yN yB 6 (some (.array .byte)) site
def P (b : Addr) (A : Cell) (o len : Nat) (args : Array Value) (s : State) : Prop := args = #[.ref b, .int (Int32.ofNat o), .int (Int32.ofNat len)] ∧ Ch b A s ∧ o + len ≤ A.slots.size ∧ len ≤ 536870912 ∧ ∀ i, i < len → ¬ 255 < cv A (o + i)
def E (b : Addr) (A : Cell) (o len : Nat) (r : Option Value) (s u : State) : Prop := NewArr .byte "[B" len (fun j => .int (lo8 (cv A (o + j)))) r s u ∧ u.heap.size = s.heap.size + 1
/-- no char of the range above 255: a new byte[] of their low bytes -/
theorem law (l : Launch) (b : Addr) (A : Cell) (o len : Nat) : Law l yN 3 3 1 18 yB 6 (some (.array .byte)) site (P b A o len) (E b A o len) [] 1 len := by
  refine Law.of_walk (plainFor_of_name (by decide +kernel)) (by decide +kernel) (by decide +kernel) (by decide) (fun _ _ h => by rw [h.1]; rfl) (fun _ U U' hal hh h => ⟨h.1, h.2.1.mv hal hh, h.2.2⟩) (fun r U U' V V' h1 hal h2 h => ⟨NewArr.mv r U U' V V' h1 hal h2 h.1, by rw [h1, h2]; exact h.2⟩) ?_
  intro p e s m args below meth c s₁ X0 hexec hbytes hml hret hlk hnm hown hh0 W hP
  obtain ⟨rfl, hA, l1, l2, hp⟩ := hP
  have a31 := hA.1.2.2.2
  have c1 : Steps p.tables e below (s₁.setTop (entryFrame m #[.ref b, .int (Int32.ofNat o), .int (Int32.ofNat len)] 6)) (s₁.setTop (mkF m 0 #[.val (.ref b), .val (.int (Int32.ofNat o)), .val (.int (Int32.ofNat len)), .unset, .unset, .unset] [])) := entry rfl
  have c2 : Steps p.tables e below (s₁.setTop (entryFrame m #[.ref b, .int (Int32.ofNat o), .int (Int32.ofNat len)] 6)) (s₁.setTop (mkF m 1 #[.val (.ref b), .val (.int (Int32.ofNat o)), .val (.int (Int32.ofNat len)), .unset, .unset, .unset] [.int (Int32.ofNat len)])) := c1.trans (by
    refine XS.iloadN X0.here hexec rfl (hb hbytes d0) rfl ?_
    exact Steps.refl _)
  obtain ⟨T3, B3, X3, ba3, bs3, bv3, bh3, bf3, st3⟩ := X0.anew hexec (atype := .byte) (wk W (.arrayClass .byte)) rfl (by show len * 1 ≤ _; omega) (by omega) (g := (mkF m 1 #[.val (.ref b), .val (.int (Int32.ofNat o)), .val (.int (Int32.ofNat len)), .unset, .unset, .unset] [.int (Int32.ofNat len)])) rfl (hb hbytes d1) (rest := []) rfl (Nat.le_refl _) (by show 0 + len ≤ len; omega)
  rw [hh0] at ba3 st3
  have kp3 : XT.Kept s T3 := (XT.Kept.of_eq hh0).push bh3
  have hA3 := hA.keep X3.warmed.alike (kp3 _ _ hA.1.1)
  have hne : b ≠ s.heap.size := hA.1.ne
  have c4 : Steps p.tables e below (s₁.setTop (entryFrame m #[.ref b, .int (Int32.ofNat o), .int (Int32.ofNat len)] 6)) (T3.setTop (mkF m 3 #[.val (.ref b), .val (.int (Int32.ofNat o)), .val (.int (Int32.ofNat len)), .unset, .unset, .unset] [.ref s.heap.size])) := c2.trans (st3 _ (Steps.refl _))
  have c5 : Steps p.tables e below (s₁.setTop (entryFrame m #[.ref b, .int (Int32.ofNat o), .int (Int32.ofNat len)] 6)) (T3.setTop (mkF m 9 #[.val (.ref b), .val (.int (Int32.ofNat o)), .val (.int (Int32.ofNat len)), .val (.ref s.heap.size), .unset, .unset] [.int (Int32.ofNat len), .int 0, .ref s.heap.size, .int (Int32.ofNat o), .ref b])) := c4.trans (by
    refine XS.astoreN X3.here hexec rfl (hb hbytes d3) rfl rfl rfl ?_
    refine XS.aloadN X3.here hexec rfl (hb hbytes d4) rfl rfl ?_
    refine XS.iloadN X3.here hexec rfl (hb hbytes d5) rfl ?_
    refine XS.aloadN X3.here hexec rfl (hb hbytes d6) rfl rfl ?_
    refine iconstV X3.here hexec rfl 0 (hb hbytes d7) (by decide) ?_
    refine XS.iloadN X3.here hexec rfl (hb hbytes d8) rfl ?_
    exact Steps.refl _)
  obtain ⟨v6, T6, X6, E6, g6⟩ := X3.callS hexec (Cmp5.law l b A s.heap.size B3 o 0 len) hown (wks W (staticW U16 115 Cmp5.yN)) (wk W Cmp5.tab) (W := 0) (Nat.le_of_ble_eq_true rfl) (Nat.le_of_ble_eq_true rfl) (Nat.le_refl _) (by show 0 + len + 0 ≤ len; omega) (g := (mkF m 9 #[.val (.ref b), .val (.int (Int32.ofNat o)), .val (.int (Int32.ofNat len)), .val (.ref s.heap.size), .unset, .unset] [.int (Int32.ofNat len), .int (Int32.ofNat 0), .ref s.heap.size, .int (Int32.ofNat o), .ref b])) rfl (by rw [hml]; rfl) c5 (argsL := [.ref b, .int (Int32.ofNat o), .ref s.heap.size, .int (Int32.ofNat 0), .int (Int32.ofNat len)]) (rest := []) rfl rfl (by show 2 * 0 + 0 ≤ _; decide) (hb hbytes d9) (⟨rfl, hA3, ba3, hne, l1, by rw [bs3]; simp, hp⟩)
  obtain ⟨rfl, B6, p6, f6⟩ := E6
  have c7 : Steps p.tables e below (s₁.setTop (entryFrame m #[.ref b, .int (Int32.ofNat o), .int (Int32.ofNat len)] 6)) (T6.setTop (mkF m 12 #[.val (.ref b), .val (.int (Int32.ofNat o)), .val (.int (Int32.ofNat len)), .val (.ref s.heap.size), .unset, .unset] [.int (Int32.ofNat len)])) := g6
  have c8 : Steps p.tables e below (s₁.setTop (entryFrame m #[.ref b, .int (Int32.ofNat o), .int (Int32.ofNat len)] 6)) (T6.setTop (mkF m 58 #[.val (.ref b), .val (.int (Int32.ofNat o)), .val (.int (Int32.ofNat len)), .val (.ref s.heap.size), .val (.int (Int32.ofNat len)), .unset] [.ref s.heap.size])) := c7.trans (by
    refine XS.istore X6.here hexec rfl (hb hbytes d12) rfl rfl ?_
    refine XS.iload X6.here hexec rfl (hb hbytes d14) rfl ?_
    refine XS.iloadN X6.here hexec rfl (hb hbytes d16) rfl ?_
    refine XS.icmpYes X6.here hexec rfl (pc0 := 17) rfl (hb hbytes d17) rfl (ii_eq_t rfl) (by decide) rfl ?_
    refine XS.aloadN X6.here hexec rfl (hb hbytes d57) rfl rfl ?_
    exact Steps.refl _)
  have X8 := X6.wide (L' := []) (cells' := 1) (slots' := len) (fun x hx hlt => by
    simp only [List.nil_append, copyLocs, List.mem_map, List.mem_range] at hx
    obtain ⟨i, -, rfl⟩ := hx
    exact absurd hlt (Nat.lt_irrefl _)) (Nat.le_refl _) (by omega)
  exact ⟨T6, some (.ref s.heap.size), _, _, _, X8, rfl, rfl, rfl, (fun h => by cases h), ⟨⟨rfl, B6, ba3.like (X3.warmed.alike.symm.trans X6.warmed.alike) p6.1 f6.1 f6.2.1 f6.2.2.1, f6.2.1.trans bv3, by rw [X6.warmed.alike.findClass, f6.1]; exact bf3, by rw [f6.2.2.1, bs3]; simp, fun j hj => by rw [f6.2.2.2 j, if_pos (by omega)]; rfl, kp3.put p6 (Nat.le_refl _)⟩, by rw [p6.2.2, bh3, hh0]; simp⟩, fun fs hl => c8.trans (X8.areturnOut hexec rfl hret rfl (hb hbytes d58) hl)⟩
end Cmp3
namespace CodL
def yN : MethodName := ⟨"java/lang/StringUTF16", "coderFromArrayLen", "([BI)B"⟩
abbrev yB : ByteArray := jdk_52_method_15_code
theorem d0 : decode yB 0 = .ok (.iload_n 1, 1) := by decide +kernel
theorem d1 : decode yB 1 = .ok (.aload_n 0, 1) := by decide +kernel
theorem d2 : decode yB 2 = .ok (.arraylength, 1) := by decide +kernel
theorem d3 : decode yB 3 = .ok (.isub, 1) := by decide +kernel
theorem d4 : decode yB 4 = .ok (.bipush 31, 2) := by decide +kernel
theorem d6 : decode yB 6 = .ok (.iushr, 1) := by decide +kernel
theorem d7 : decode yB 7 = .ok (.i2b, 1) := by decide +kernel
theorem d8 : decode yB 8 = .ok (.ireturn, 1) := by decide +kernel
def site : List Cond := []
def tab : Cond := tabOf yN yB 2 (some .byte) site
def P (d : Addr) (B : Cell) (args : Array Value) (s : State) : Prop := args = #[.ref d, .int (Int32.ofNat B.slots.size)] ∧ Arr .byte d B s
def E (r : Option Value) (s u : State) : Prop := XT.PureE (some (.int 0)) r s u
/-- an array as long as the number of chars: LATIN1 -/
theorem law (l : Launch) (d : Addr) (B : Cell) : Law l yN 2 2 0 0 yB 2 (some .byte) site (P d B) E [] 0 0 := by
  refine Law.of_walk (plainFor_of_name (by decide +kernel)) (by decide +kernel) (by decide +kernel) (by decide) (fun _ _ h => by rw [h.1]; rfl) (fun _ U U' hal hh h => ⟨h.1, h.2.mv hal hh⟩) (fun r U U' V V' h1 hal h2 h => XT.PureE.mv r U U' V V' h1 hal h2 h) ?_
  intro p e s m args below meth c s₁ X0 hexec hbytes hml hret hlk hnm hown hh0 W hP
  obtain ⟨rfl, hB⟩ := hP
  have hB0 := hB.mv X0.warmed.alike hh0
  have c1 : Steps p.tables e below (s₁.setTop (entryFrame m #[.ref d, .int (Int32.ofNat B.slots.size)] 2)) (s₁.setTop (mkF m 0 #[.val (.ref d), .val (.int (Int32.ofNat B.slots.size))] [])) := entry rfl
  have c2 : Steps p.tables e below (s₁.setTop (entryFrame m #[.ref d, .int (Int32.ofNat B.slots.size)] 2)) (s₁.setTop (mkF m 2 #[.val (.ref d), .val (.int (Int32.ofNat B.slots.size))] [.ref d, .int (Int32.ofNat B.slots.size)])) := c1.trans (by
    refine XS.iloadN X0.here hexec rfl (hb hbytes d0) rfl ?_
    refine XS.aloadN X0.here hexec rfl (hb hbytes d1) rfl rfl ?_
    exact Steps.refl _)
  have c3 : Steps p.tables e below (s₁.setTop (entryFrame m #[.ref d, .int (Int32.ofNat B.slots.size)] 2)) (s₁.setTop (mkF m 8 #[.val (.ref d), .val (.int (Int32.ofNat B.slots.size))] [.int (lo8 (ushr (Int32.ofNat B.slots.size - Int32.ofNat B.slots.size) 31))])) := c2.trans (by
    refine X0.alen hexec hB0 rfl rfl (hb hbytes d2) ?_
    refine XS.isub X0.here hexec rfl (hb hbytes d3) rfl ?_
    refine bipushV X0.here hexec rfl 31 (hb hbytes d4) (by decide) ?_
    refine iushr X0.here hexec rfl (hb hbytes d6) rfl ?_
    refine i2b X0.here hexec rfl (hb hbytes d7) rfl ?_
    exact Steps.refl _)
  have e0 : lo8 (ushr (Int32.ofNat B.slots.size - Int32.ofNat B.slots.size) 31) = 0 := by rw [Int32.sub_self]; decide
  rw [e0] at c3
  exact ⟨s₁, some (.int 0), _, _, _, X0, rfl, rfl, rfl, (fun h => by cases h), ⟨rfl, hh0⟩, fun fs hl => c3.trans (X0.ireturnOut hexec hret rfl (Or.inr (Or.inr (Or.inl rfl))) (hb hbytes d8) hl)⟩
end CodL
/-- the String at a is Latin-1 over a new byte[] (the heap's one new cell): the low bytes of the len chars of A from o on; every cell but a is kept -/
def Got (a : Addr) (D : Cell) (fV fC : Field) (A : Cell) (o len : Nat) (r : Option Value) (s u : State) : Prop := r = none ∧ ∃ D' V : Cell, Blank "java/lang/String" a D' u ∧ Same D D' [fV.slot, fC.slot] ∧ D'.slots[fV.slot]? = some (.ref s.heap.size) ∧ D'.slots[fC.slot]? = some (.int 0) ∧ Arr .byte s.heap.size V u ∧ V.vm = .none ∧ u.vm.findClass "[B" = some V.cls ∧ V.slots.size = len ∧ (∀ j, j < len → V.slots[j]? = some (.int (lo8 (cv A (o + j))))) ∧ (∀ (y : Addr) (c : Cell), y ≠ a → s.heap[y]? = some c → u.heap[y]? = some c) ∧ u.heap.size = s.heap.size + 1
theorem Got.mv {a : Addr} {D A : Cell} {fV fC : Field} {o len : Nat} : ∀ r (U U' V V' : State), U'.heap = U.heap → V.vm.Alike V'.vm → V'.heap = V.heap → Got a D fV fC A o len r U V → Got a D fV fC A o len r U' V' :=
  fun r U U' V V' h1 hal h2 ⟨e0, D', X, a1, a2, a3, a4, a5, a6, a7, a8, a9, a10, a11⟩ => ⟨e0, D', X, a1.mv hal h2, a2, by rw [h1]; exact a3, a4, by rw [h1]; exact a5.mv hal h2, a6, by rw [hal.findClass]; exact a7, a8, a9, by rw [h1, h2]; exact a10, by rw [h1, h2]; exact a11⟩
namespace New4
def yN : MethodName := ⟨"java/lang/String", "<init>", "([CIILjava/lang/Void;)V"⟩
abbrev yB : ByteArray := jdk_42_method_149_code
theorem d0 : decode yB 0 = .ok (.aload_n 0, 1) := by decide +kernel
theorem d1 : decode yB 1 = .ok (.invokespecial 1, 3) := by decide +kernel
theorem d4 : decode yB 4 = .ok (.iload_n 3, 1) := by decide +kernel
theorem d5 : decode yB 5 = .ok (.ifCond (.ne) 22, 3) := by decide +kernel
theorem d27 : decode yB 27 = .ok (.getstatic 38, 3) := by decide +kernel
theorem d30 : decode yB 30 = .ok (.ifCond (.eq) 28, 3) := by decide +kernel
theorem d33 : decode yB 33 = .ok (.aload_n 1, 1) := by decide +kernel
theorem d34 : decode yB 34 = .ok (.iload_n 2, 1) := by decide +kernel
theorem d35 : decode yB 35 = .ok (.iload_n 3, 1) := by decide +kernel
theorem d36 : decode yB 36 = .ok (.invokestatic 177, 3) := by decide +kernel
theorem d39 : decode yB 39 = .ok (.astore 5, 2) := by decide +kernel
theorem d41 : decode yB 41 = .ok (.aload_n 0, 1) := by decide +kernel
theorem d42 : decode yB 42 = .ok (.aload 5, 2) := by decide +kernel
theorem d44 : decode yB 44 = .ok (.iload_n 3, 1) := by decide +kernel
theorem d45 : decode yB 45 = .ok (.invokestatic 47, 3) := by decide +kernel
theorem d48 : decode yB 48 = .ok (.putfield 15, 3) := by decide +kernel
theorem d51 : decode yB 51 = .ok (.aload_n 0, 1) := by decide +kernel
theorem d52 : decode yB 52 = .ok (.aload 5, 2) := by decide +kernel
theorem d54 : decode yB 54 = .ok (.putfield 9, 3) := by decide +kernel
theorem d57 : decode yB 57 = .ok (.return_, 1) := by decide +kernel
def site : List Cond := [.fieldLink "java/lang/String" 38 "java/lang/String" "COMPACT_STRINGS" "Z", Cmp3.tab, CodL.tab, .laysFinal "java/lang/String" "java/lang/String" "value" "[B", .fieldLink "java/lang/String" 9 "java/lang/String" "value" "[B", .laysFinal "java/lang/String" "java/lang/String" "coder" "B", .fieldLink "java/lang/String" 15 "java/lang/String" "coder" "B"] ++ objW "java/lang/String" 1 ++ staticW "java/lang/String" 177 Cmp3.yN ++ staticW "java/lang/String" 47 CodL.yN
def tab : Cond := tabOf yN yB 6 none site
def P (a : Addr) (D : Cell) (fV fC : Field) (b : Addr) (A : Cell) (z : Int32) (o len : Nat) (args : Array Value) (s : State) : Prop := args = #[.ref a, .ref b, .int (Int32.ofNat o), .int (Int32.ofNat len), .null] ∧ Blank "java/lang/String" a D s ∧ Found "java/lang/String" "value" "[B" fV s ∧ Found "java/lang/String" "coder" "B" fC s ∧ Ch b A s ∧ StaticIs s "java/lang/String" "COMPACT_STRINGS" "Z" (.int z) ∧ ¬ z = 0 ∧ 0 < len ∧ o + len ≤ A.slots.size ∧ len ≤ 536870912 ∧ ∀ i, i < len → ¬ 255 < cv A (o + i)
def E (a : Addr) (D : Cell) (fV fC : Field) (A : Cell) (o len : Nat) (r : Option Value) (s u : State) : Prop := Got a D fV fC A o len r s u
/-- len > 0, no char of the range above 255: a Latin-1 String of their low bytes -/
theorem law (l : Launch) (a : Addr) (D : Cell) (fV fC : Field) (b : Addr) (A : Cell) (z : Int32) (o len : Nat) : Law l yN 5 4 2 35 yB 6 none site (P a D fV fC b A z o len) (E a D fV fC A o len) [⟨a, fC.slot⟩, ⟨a, fV.slot⟩] 1 len := by
  refine Law.of_walk (plainFor_of_name (by decide +kernel)) (by decide +kernel) (by decide +kernel) (by decide) (fun _ _ h => by rw [h.1]; rfl) (fun _ U U' hal hh h => ⟨h.1, h.2.1.mv hal hh, h.2.2.1.al hal, h.2.2.2.1.al hal, h.2.2.2.2.1.mv hal hh, h.2.2.2.2.2.1.there hal hh, h.2.2.2.2.2.2⟩) (fun r U U' V V' h1 hal h2 h => Got.mv r U U' V V' h1 hal h2 h) ?_
  intro p e s m args below meth c s₁ X0 hexec hbytes hml hret hlk hnm hown hh0 W hP
  obtain ⟨rfl, hB, f1, f2, hA, s1, hz, l0, l1, l2, hp⟩ := hP
  have a31 := hA.1.2.2.2
  have c1 : Steps p.tables e below (s₁.setTop (entryFrame m #[.ref a, .ref b, .int (Int32.ofNat o), .int (Int32.ofNat len), .null] 6)) (s₁.setTop (mkF m 0 #[.val (.ref a), .val (.ref b), .val (.int (Int32.ofNat o)), .val (.int (Int32.ofNat len)), .val .null, .unset] [])) := entry rfl
  have c2 : Steps p.tables e below (s₁.setTop (entryFrame m #[.ref a, .ref b, .int (Int32.ofNat o), .int (Int32.ofNat len), .null] 6)) (s₁.setTop (mkF m 1 #[.val (.ref a), .val (.ref b), .val (.int (Int32.ofNat o)), .val (.int (Int32.ofNat len)), .val .null, .unset] [.ref a])) := c1.trans (by
    refine XS.aloadN X0.here hexec rfl (hb hbytes d0) rfl rfl ?_
    exact Steps.refl _)
  obtain ⟨T3, X3, q3, st3⟩ := X0.oinit hexec hown (wks W (objW "java/lang/String" 1)) (g := (mkF m 1 #[.val (.ref a), .val (.ref b), .val (.int (Int32.ofNat o)), .val (.int (Int32.ofNat len)), .val .null, .unset] [.ref a])) rfl (by rw [hml]; rfl) (rest := []) rfl (hb hbytes d1) (W := 0) (by show 2 * 0 + 0 ≤ _; decide) (Nat.le_of_ble_eq_true rfl) (Nat.le_of_ble_eq_true rfl)
  have hh3 := q3.trans hh0
  have c4 : Steps p.tables e below (s₁.setTop (entryFrame m #[.ref a, .ref b, .int (Int32.ofNat o), .int (Int32.ofNat len), .null] 6)) (T3.setTop (mkF m 27 #[.val (.ref a), .val (.ref b), .val (.int (Int32.ofNat o)), .val (.int (Int32.ofNat len)), .val .null, .unset] [])) := (c2.trans (st3 _ (Steps.refl _))).trans (by
    refine XS.iloadN X3.here hexec rfl (hb hbytes d4) rfl ?_
    refine XS.ifYes X3.here hexec rfl (pc0 := 5) rfl (hb hbytes d5) rfl (i0_ne_t (nz32 (by omega) l0)) (by decide) rfl ?_
    exact Steps.refl _)
  obtain ⟨T5, X5, q5, st5⟩ := X3.sget hexec hown (wk W (.fieldLink "java/lang/String" 38 "java/lang/String" "COMPACT_STRINGS" "Z")) s1 (fun _ _ h => by rw [hh3]; exact h) (g := (mkF m 27 #[.val (.ref a), .val (.ref b), .val (.int (Int32.ofNat o)), .val (.int (Int32.ofNat len)), .val .null, .unset] [])) rfl (hb hbytes d27)
  have hh5 := q5.trans hh3
  have c6 : Steps p.tables e below (s₁.setTop (entryFrame m #[.ref a, .ref b, .int (Int32.ofNat o), .int (Int32.ofNat len), .null] 6)) (T5.setTop (mkF m 30 #[.val (.ref a), .val (.ref b), .val (.int (Int32.ofNat o)), .val (.int (Int32.ofNat len)), .val .null, .unset] [.int z])) := c4.trans (st5 _ (Steps.refl _))
  have c7 : Steps p.tables e below (s₁.setTop (entryFrame m #[.ref a, .ref b, .int (Int32.ofNat o), .int (Int32.ofNat len), .null] 6)) (T5.setTop (mkF m 36 #[.val (.ref a), .val (.ref b), .val (.int (Int32.ofNat o)), .val (.int (Int32.ofNat len)), .val .null, .unset] [.int (Int32.ofNat len), .int (Int32.ofNat o), .ref b])) := c6.trans (by
    refine XS.ifNo X5.here hexec rfl (hb hbytes d30) rfl (i0_eq_f hz) ?_
    refine XS.aloadN X5.here hexec rfl (hb hbytes d33) rfl rfl ?_
    refine XS.iloadN X5.here hexec rfl (hb hbytes d34) rfl ?_
    refine XS.iloadN X5.here hexec rfl (hb hbytes d35) rfl ?_
    exact Steps.refl _)
  obtain ⟨v8, T8, X8, E8, g8⟩ := X5.callS hexec (Cmp3.law l b A o len) hown (wks W (staticW "java/lang/String" 177 Cmp3.yN)) (wk W Cmp3.tab) (W := 0) (Nat.le_of_ble_eq_true rfl) (Nat.le_of_ble_eq_true rfl) (Nat.le_refl _) (by show 0 + len ≤ len; omega) (g := (mkF m 36 #[.val (.ref a), .val (.ref b), .val (.int (Int32.ofNat o)), .val (.int (Int32.ofNat len)), .val .null, .unset] [.int (Int32.ofNat len), .int (Int32.ofNat o), .ref b])) rfl (by rw [hml]; rfl) c7 (argsL := [.ref b, .int (Int32.ofNat o), .int (Int32.ofNat len)]) (rest := []) rfl rfl (by show 2 * 0 + 0 ≤ _; decide) (hb hbytes d36) (⟨rfl, hA.mv X5.warmed.alike hh5, l1, l2, hp⟩)
  obtain ⟨e8, z8⟩ := E8
  obtain ⟨rfl, N, n1, n2, n3, n4, n5, n6⟩ := NewArr.mv _ T5 s _ _ hh5.symm (Vm.Alike.refl _) rfl e8
  rw [hh5] at z8
  have hB1 := hB.keep X8.warmed.alike (n6 _ _ hB.1)
  have hne : s.heap.size ≠ a := (Nat.ne_of_lt (Array.getElem?_eq_some_iff.mp hB.1).1).symm
  have c9 : Steps p.tables e below (s₁.setTop (entryFrame m #[.ref a, .ref b, .int (Int32.ofNat o), .int (Int32.ofNat len), .null] 6)) (T8.setTop (mkF m 39 #[.val (.ref a), .val (.ref b), .val (.int (Int32.ofNat o)), .val (.int (Int32.ofNat len)), .val .null, .unset] [.ref s.heap.size])) := g8
  have c10 : Steps p.tables e below (s₁.setTop (entryFrame m #[.ref a, .ref b, .int (Int32.ofNat o), .int (Int32.ofNat len), .null] 6)) (T8.setTop (mkF m 45 #[.val (.ref a), .val (.ref b), .val (.int (Int32.ofNat o)), .val (.int (Int32.ofNat len)), .val .null, .val (.ref s.heap.size)] [.int (Int32.ofNat N.slots.size), .ref s.heap.size, .ref a])) := by
    have hc : Steps p.tables e below (s₁.setTop (entryFrame m #[.ref a, .ref b, .int (Int32.ofNat o), .int (Int32.ofNat len), .null] 6)) (T8.setTop (mkF m 45 #[.val (.ref a), .val (.ref b), .val (.int (Int32.ofNat o)), .val (.int (Int32.ofNat len)), .val .null, .val (.ref s.heap.size)] [.int (Int32.ofNat len), .ref s.heap.size, .ref a])) := c9.trans (by
      refine XS.astore X8.here hexec rfl (hb hbytes d39) rfl rfl rfl ?_
      refine XS.aloadN X8.here hexec rfl (hb hbytes d41) rfl rfl ?_
      refine XS.aload X8.here hexec rfl (hb hbytes d42) rfl rfl ?_
      refine XS.iloadN X8.here hexec rfl (hb hbytes d44) rfl ?_
      exact Steps.refl _)
    rw [n4]; exact hc
  obtain ⟨v11, T11, X11, E11, g11⟩ := X8.callS hexec (CodL.law l s.heap.size N) hown (wks W (staticW "java/lang/String" 47 CodL.yN)) (wk W CodL.tab) (W := 1) (Nat.le_of_ble_eq_true rfl) (Nat.le_of_ble_eq_true rfl) (Nat.le_refl _) (by show 0 + len + 0 ≤ len; omega) (g := (mkF m 45 #[.val (.ref a), .val (.ref b), .val (.int (Int32.ofNat o)), .val (.int (Int32.ofNat len)), .val .null, .val (.ref s.heap.size)] [.int (Int32.ofNat N.slots.size), .ref s.heap.size, .ref a])) rfl (by rw [hml]; rfl) c10 (argsL := [.ref s.heap.size, .int (Int32.ofNat N.slots.size)]) (rest := [.ref a]) rfl rfl (by show 2 * 0 + (1 + 0) ≤ _; decide) (hb hbytes d45) (⟨rfl, n1⟩)
  obtain ⟨rfl, q11⟩ := E11
  have hB11 := hB1.mv (X8.warmed.alike.symm.trans X11.warmed.alike) q11
  have c12 : Steps p.tables e below (s₁.setTop (entryFrame m #[.ref a, .ref b, .int (Int32.ofNat o), .int (Int32.ofNat len), .null] 6)) (T11.setTop (mkF m 48 #[.val (.ref a), .val (.ref b), .val (.int (Int32.ofNat o)), .val (.int (Int32.ofNat len)), .val .null, .val (.ref s.heap.size)] [.int 0, .ref a])) := g11
  obtain ⟨T13, X13, p13, bl13, sl13, st13⟩ := X11.finit hexec hown (wk W (.fieldLink "java/lang/String" 15 "java/lang/String" "coder" "B")) (Or.inr ⟨_, (wk W (.laysFinal "java/lang/String" "java/lang/String" "coder" "B"))⟩) (Or.inl ⟨rfl, hnm⟩) f2 (Or.inl rfl) hB11 (t := .byte) (by decide +kernel) rfl (g := (mkF m 48 #[.val (.ref a), .val (.ref b), .val (.int (Int32.ofNat o)), .val (.int (Int32.ofNat len)), .val .null, .val (.ref s.heap.size)] [.int 0, .ref a])) rfl (rest := []) rfl (hb hbytes d48)
  have c14 : Steps p.tables e below (s₁.setTop (entryFrame m #[.ref a, .ref b, .int (Int32.ofNat o), .int (Int32.ofNat len), .null] 6)) (T13.setTop (mkF m 54 #[.val (.ref a), .val (.ref b), .val (.int (Int32.ofNat o)), .val (.int (Int32.ofNat len)), .val .null, .val (.ref s.heap.size)] [.ref s.heap.size, .ref a])) := (c12.trans (st13 _ (Steps.refl _))).trans (by
    refine XS.aloadN X13.here hexec rfl (hb hbytes d51) rfl rfl ?_
    refine XS.aload X13.here hexec rfl (hb hbytes d52) rfl rfl ?_
    exact Steps.refl _)
  obtain ⟨T15, X15, p15, bl15, sl15, st15⟩ := X13.finit hexec hown (wk W (.fieldLink "java/lang/String" 9 "java/lang/String" "value" "[B")) (Or.inr ⟨_, (wk W (.laysFinal "java/lang/String" "java/lang/String" "value" "[B"))⟩) (Or.inl ⟨rfl, hnm⟩) f1 (Or.inl rfl) bl13 (t := (.array .byte)) (by decide +kernel) rfl (g := (mkF m 54 #[.val (.ref a), .val (.ref b), .val (.int (Int32.ofNat o)), .val (.int (Int32.ofNat len)), .val .null, .val (.ref s.heap.size)] [.ref s.heap.size, .ref a])) rfl (rest := []) rfl (hb hbytes d54)
  have c16 : Steps p.tables e below (s₁.setTop (entryFrame m #[.ref a, .ref b, .int (Int32.ofNat o), .int (Int32.ofNat len), .null] 6)) (T15.setTop (mkF m 57 #[.val (.ref a), .val (.ref b), .val (.int (Int32.ofNat o)), .val (.int (Int32.ofNat len)), .val .null, .val (.ref s.heap.size)] [])) := c14.trans (st15 _ (Steps.refl _))
  have ap := apart (Or.inr ⟨_, (wk W (.laysFinal "java/lang/String" "java/lang/String" "value" "[B"))⟩) (Or.inr ⟨_, (wk W (.laysFinal "java/lang/String" "java/lang/String" "coder" "B"))⟩) f1 f2 (t₁ := .array .byte) (t₂ := .byte) (by decide +kernel) (by decide +kernel) (by decide)
  have al := X8.warmed.alike.symm.trans X15.warmed.alike
  have n7 : T11.heap[s.heap.size]? = some N := by rw [q11]; exact n1.1
  exact ⟨T15, none, _, _, _, X15, by simp, rfl, by omega, (fun _ => rfl), ⟨rfl, _, N, bl15, ((Same.refl D _).set _ (by simp)).set _ (by simp), sl15, (Cell.slots_setSlot_ne _ ap).trans sl13, n1.keep al (p15.other hne (p13.other hne n7)), n2, by rw [al.findClass]; exact n3, n4, n5, fun y c h1 h2 => p15.other h1 (p13.other h1 (by rw [q11]; exact n6 y c h2)), by rw [p15.2.2, p13.2.2, q11]; exact z8⟩, fun fs hl => c16.trans (X15.returnOut hexec hret (hb hbytes d57) hl)⟩
end New4
namespace New1
def yN : MethodName := ⟨"java/lang/String", "<init>", "([C)V"⟩
abbrev yB : ByteArray := jdk_42_method_3_code
theorem d0 : decode yB 0 = .ok (.aload_n 0, 1) := by decide +kernel
theorem d1 : decode yB 1 = .ok (.aload_n 1, 1) := by decide +kernel
theorem d2 : decode yB 2 = .ok (.iconst 0, 1) := by decide +kernel
theorem d3 : decode yB 3 = .ok (.aload_n 1, 1) := by decide +kernel
theorem d4 : decode yB 4 = .ok (.arraylength, 1) := by decide +kernel
theorem d5 : decode yB 5 = .ok (.aconst_null, 1) := by decide +kernel
theorem d6 : decode yB 6 = .ok (.invokespecial 27, 3) := by decide +kernel
theorem d9 : decode yB 9 = .ok (.return_, 1) := by decide +kernel
def site : List Cond := [New4.tab] ++ initW "java/lang/String" 27 New4.yN
def tab : Cond := tabOf yN yB 2 none site
def P (a : Addr) (D : Cell) (fV fC : Field) (b : Addr) (A : Cell) (z : Int32) (args : Array Value) (s : State) : Prop := args = #[.ref a, .ref b] ∧ Blank "java/lang/String" a D s ∧ Found "java/lang/String" "value" "[B" fV s ∧ Found "java/lang/String" "coder" "B" fC s ∧ Ch b A s ∧ StaticIs s "java/lang/String" "COMPACT_STRINGS" "Z" (.int z) ∧ ¬ z = 0 ∧ 0 < A.slots.size ∧ A.slots.size ≤ 536870912 ∧ ∀ i, i < A.slots.size → ¬ 255 < cv A i
def E (a : Addr) (D : Cell) (fV fC : Field) (A : Cell) (r : Option Value) (s u : State) : Prop := Got a D fV fC A 0 A.slots.size r s u
/-- new String(chars), not empty, no char above 255: a Latin-1 String of their low bytes -/
theorem law (l : Launch) (a : Addr) (D : Cell) (fV fC : Field) (b : Addr) (A : Cell) (z : Int32) : Law l yN 2 1 3 52 yB 2 none site (P a D fV fC b A z) (E a D fV fC A) [⟨a, fC.slot⟩, ⟨a, fV.slot⟩] 1 A.slots.size := by
  refine Law.of_walk (plainFor_of_name (by decide +kernel)) (by decide +kernel) (by decide +kernel) (by decide) (fun _ _ h => by rw [h.1]; rfl) (fun _ U U' hal hh h => ⟨h.1, h.2.1.mv hal hh, h.2.2.1.al hal, h.2.2.2.1.al hal, h.2.2.2.2.1.mv hal hh, h.2.2.2.2.2.1.there hal hh, h.2.2.2.2.2.2⟩) (fun r U U' V V' h1 hal h2 h => Got.mv r U U' V V' h1 hal h2 h) ?_
  intro p e s m args below meth c s₁ X0 hexec hbytes hml hret hlk hnm hown hh0 W hP
  obtain ⟨rfl, hB, f1, f2, hA, s1, hz, l0, l2, hp⟩ := hP
  have c1 : Steps p.tables e below (s₁.setTop (entryFrame m #[.ref a, .ref b] 2)) (s₁.setTop (mkF m 0 #[.val (.ref a), .val (.ref b)] [])) := entry rfl
  have c2 : Steps p.tables e below (s₁.setTop (entryFrame m #[.ref a, .ref b] 2)) (s₁.setTop (mkF m 6 #[.val (.ref a), .val (.ref b)] [.null, .int (Int32.ofNat A.slots.size), .int 0, .ref b, .ref a])) := c1.trans (by
    refine XS.aloadN X0.here hexec rfl (hb hbytes d0) rfl rfl ?_
    refine XS.aloadN X0.here hexec rfl (hb hbytes d1) rfl rfl ?_
    refine iconstV X0.here hexec rfl 0 (hb hbytes d2) (by decide) ?_
    refine XS.aloadN X0.here hexec rfl (hb hbytes d3) rfl rfl ?_
    refine X0.alen hexec (hA.1.mv X0.warmed.alike hh0) rfl rfl (hb hbytes d4) ?_
    refine XS.aconstNull X0.here hexec rfl (hb hbytes d5) ?_
    exact Steps.refl _)
  obtain ⟨v3, T3, X3, E3, g3⟩ := X0.callN hexec (New4.law l a D fV fC b A z 0 A.slots.size) rfl hown (wks W (initW "java/lang/String" 27 New4.yN)) (W New4.tab (by simp only [site, List.mem_cons, List.mem_append, true_or, or_true])) (W := 0) (Nat.le_of_ble_eq_true rfl) (Nat.le_of_ble_eq_true rfl) (Nat.le_refl _) (by show 0 + A.slots.size ≤ A.slots.size; omega) (g := (mkF m 6 #[.val (.ref a), .val (.ref b)] [.null, .int (Int32.ofNat A.slots.size), .int (Int32.ofNat 0), .ref b, .ref a])) rfl (by rw [hml]; rfl) c2 (argsL := [.ref b, .int (Int32.ofNat 0), .int (Int32.ofNat A.slots.size), .null]) (rest := []) rfl rfl (by show 2 * 0 + 0 ≤ _; decide) (hb hbytes d6) (⟨rfl, hB.mv X0.warmed.alike hh0, f1.al X0.warmed.alike, f2.al X0.warmed.alike, hA.mv X0.warmed.alike hh0, s1.there X0.warmed.alike hh0, hz, l0, by omega, l2, fun i hi => by rw [Nat.zero_add]; exact hp i hi⟩)
  have e0 := Got.mv _ s₁ s _ _ hh0.symm (Vm.Alike.refl _) rfl E3
  obtain rfl := e0.1
  have c4 : Steps p.tables e below (s₁.setTop (entryFrame m #[.ref a, .ref b] 2)) (T3.setTop (mkF m 9 #[.val (.ref a), .val (.ref b)] [])) := g3
  exact ⟨T3, none, _, _, _, X3, by simp, rfl, by omega, (fun _ => rfl), e0, fun fs hl => c4.trans (X3.returnOut hexec hret (hb hbytes d9) hl)⟩
theorem pays {l : Launch} {R : Room} {p : Program} {e : Env} {below : List Frame} {s : State} {sargs : Array Value} {len W : Nat} (a : Addr) (D : Cell) (fV fC : Field) (b : Addr) (A : Cell) (z : Int32) (htab : tab.before sargs s = true) (hfr : 4 ≤ R.frames) (hlo : W + 65 ≤ R.locals) :
    Back l R p e below s sargs yN len W (fun A₁ a₁ => A₁.cells + 1 ≤ R.cells ∧ A₁.slots + A.slots.size ≤ R.slots ∧ P a D fV fC b A z a₁ A₁.U) (fun A₁ _ v₁ B₁ => E a D fV fC A v₁ A₁.U B₁.U ∧ B₁.locs = A₁.locs ++ [⟨a, fC.slot⟩, ⟨a, fV.slot⟩] ∧ B₁.cells = A₁.cells + 1 ∧ B₁.slots = A₁.slots + A.slots.size) :=
  (law l a D fV fC b A z).pays htab hfr (by omega)
end New1
end StrChars
namespace StrChars.Road
open Jvm Sem ClassFile Op Lib Jvm.Stand Jvm.Free Jvm.Free.XT
open Jvm.Lib.Cold (StaticIs)
abbrev ST : String := "java/lang/String"
/-- every table word that New1's law asks, flat -/
abbrev words : List Jvm.Cond := [.code New1.yN New1.yB 2 none, .initialized ST, .methodLink ST 27 New4.yN, .instanceMethod New4.yN,
  .code New4.yN New4.yB 6 none, .fieldLink ST 38 ST "COMPACT_STRINGS" "Z", .laysFinal ST ST "value" "[B", .fieldLink ST 9 ST "value" "[B", .laysFinal ST ST "coder" "B", .fieldLink ST 15 ST "coder" "B",
  .methodLink ST 1 Lib.objectInit, .instanceMethod Lib.objectInit, .code Lib.objectInit ⟨#[0xb1]⟩ 1 none, .methodLink ST 177 Cmp3.yN, .static Cmp3.yN, .methodLink ST 47 CodL.yN, .static CodL.yN,
  .code Cmp3.yN Cmp3.yB 6 (some (.array .byte)), .initialized U16, .arrayClass .byte, .methodLink U16 115 Cmp5.yN, .static Cmp5.yN, .code Cmp5.yN Cmp5.yB 7 (some .int), .code CodL.yN CodL.yB 2 (some .byte)]
theorem tab_of {a : Array Value} {s : State} (h : ∀ w ∈ words, w.before a s = true) : New1.tab.before a s = true := by
  have h5 : Cmp5.tab.before a s = true := unparts (wk h (.code Cmp5.yN Cmp5.yB 7 (some .int))) (wks h (.initialized Cmp5.yN.cls :: Cmp5.site))
  have hc : CodL.tab.before a s = true := unparts (wk h (.code CodL.yN CodL.yB 2 (some .byte))) (wks h (.initialized CodL.yN.cls :: CodL.site))
  have q5 : ∀ w ∈ Cmp5.tab :: words, w.before a s = true := fun w hw => (List.mem_cons.mp hw).elim (fun e => e ▸ h5) (h w)
  have h3 : Cmp3.tab.before a s = true := unparts (wk q5 (.code Cmp3.yN Cmp3.yB 6 (some (.array .byte)))) (wks q5 (.initialized Cmp3.yN.cls :: Cmp3.site))
  have q3 : ∀ w ∈ Cmp3.tab :: CodL.tab :: words, w.before a s = true := fun w hw => (List.mem_cons.mp hw).elim (fun e => e ▸ h3) fun hw => (List.mem_cons.mp hw).elim (fun e => e ▸ hc) (h w)
  have h4 : New4.tab.before a s = true := unparts (wk q3 (.code New4.yN New4.yB 6 none)) (wks q3 (.initialized New4.yN.cls :: New4.site))
  have q4 : ∀ w ∈ New4.tab :: words, w.before a s = true := fun w hw => (List.mem_cons.mp hw).elim (fun e => e ▸ h4) (h w)
  exact unparts (wk q4 (.code New1.yN New1.yB 2 none)) (wks q4 (.initialized New1.yN.cls :: New1.site))
/-- the words ride from the start Z to the walk's own state -/
theorem moved {Z s : State} {a0 args : Array Value} (hZ : Z.Warmed39 s.vm) (hw : ∀ d ∈ words, d.before a0 Z = true) : ∀ d ∈ words, d.before args s = true := fun d hd => by
  have q := hw d hd
  have t : ∀ d ∈ words, d = .arrayClass .byte ∨ (d.onTables && d.keepsFace) = true := by decide +kernel
  rcases t d hd with rfl | t
  · exact RoadKit.mvA hZ q
  · exact RoadKit.mv hZ q t
/-- WHAT COMES BACK, over the tables of the start Z: h the heap at the call, h' behind it -/
def Q (Z : State) (x : Addr) (A : Cell) (h : Heap) (v : Option Value) (h' : Heap) (L : List Loc) : Prop := v = none ∧ (∀ y ∈ L, y.base = x) ∧ RoadKit.Keep h h' [x] ∧ h'.size = h.size + 1 ∧ RoadKit.Exa Z h' x ST ∧ RoadKit.Fld Z h' x ST "value" "[B" (.ref h.size) ∧ RoadKit.Fld Z h' x ST "coder" "B" (.int 0) ∧
  (∃ V : Cell, RoadKit.Arr Z h' h.size V .byte ∧ V.vm = .none ∧ Z.vm.findClass "[B" = some V.cls ∧ V.slots.size = A.slots.size ∧ ∀ j, j < A.slots.size → V.slots[j]? = some (.int (lo8 (cv A j)))) ∧
  ∀ (O n d : String) (w : Value), RoadKit.Fld Z h x O n d w → RoadKit.slotOf Z O n d ≠ RoadKit.slotOf Z ST "value" "[B" → RoadKit.slotOf Z O n d ≠ RoadKit.slotOf Z ST "coder" "B" → RoadKit.Fld Z h' x O n d w
/-- **new String(chars) AT A CALL, IN THE ROAD'S FORM**: for specialBack behind newO: x the fresh String, b the char[] with the cell A -/
theorem back {p : Program} {l : Launch} {e : Env} {R : Room} {s : State} {args : Array Value} {below : List Frame} {len W : Nat} {Z : State} {a0 : Array Value} {h : Heap} (hZ : Z.Warmed39 s.vm) (hw : ∀ d ∈ words, d.before a0 Z = true) {kI : Nat} (wi : (Jvm.Cond.instantiable ST kI).before a0 Z = true)
    {x b : Addr} {A : Cell} {z : Int32} {v0 c0 : Value} (E : RoadKit.Exa Z h x ST) (V : RoadKit.Fld Z h x ST "value" "[B" v0) (C : RoadKit.Fld Z h x ST "coder" "B" c0) (K : RoadKit.Arr Z h b A .char) (hty : Typed .char A) (S : RoadKit.Sta Z h ST "COMPACT_STRINGS" "Z" (.int z)) (hz : ¬ z = 0)
    (l0 : 0 < A.slots.size) (l2 : A.slots.size ≤ 536870912) (hp : ∀ i, i < A.slots.size → ¬ 255 < cv A i) (hfr : 4 ≤ R.frames) (hlo : W + 65 ≤ R.locals) :
    Back l R p e below s args New1.yN len W (fun P a => a = #[.ref x, .ref b] ∧ P.U.heap = h ∧ P.cells + 1 ≤ R.cells ∧ P.slots + A.slots.size ≤ R.slots)
      (fun P _ v B => ∃ L, Q Z x A h v B.U.heap L ∧ B.locs = P.locs ++ L ∧ B.cells = P.cells + 1 ∧ B.slots = P.slots + A.slots.size) := by
  intro m meth c P g ig mk a X hg hsize hdg hW hn hp'
  obtain ⟨rfl, rfl, r1, r2⟩ := hp'
  have al : Z.vm.Alike P.U.vm := hZ.alike.trans X.warmed.alike
  obtain ⟨D, cfV, kV, iV, fV, hD, gV, stV, knV, obV, asV, slV⟩ := id V
  obtain ⟨D', cfC, kC, iC, fC, hD', gC, stC, -, -, asC, slC⟩ := id C
  cases hD.symm.trans hD'
  obtain ⟨D2, kD, e1, e2, e3, e4, e5⟩ := id E
  cases hD.symm.trans e1
  obtain ⟨c2, k2, i1, i2, i3, -⟩ := Cond.instantiable_spec wi
  cases e2.symm.trans i1
  cases e3.symm.trans i2
  obtain ⟨kU, u1, u2⟩ := al.2.2 _ _ e3
  have hB : Blank ST x D P.U := ⟨hD, ⟨knV, fun q hq => by rw [hq] at obV; cases obV⟩, by rw [al.findClass]; exact e2, kU, u1, by rw [u2]; exact i3, by rw [u2]; exact e5 i3⟩
  have F1 : Found ST "value" "[B" fV P.U := ⟨SBG.found_only al ⟨cfV, kV, iV, gV⟩, stV⟩
  have F2 : Found ST "coder" "B" fC P.U := ⟨SBG.found_only al ⟨cfC, kC, iC, gC⟩, stC⟩
  have hA : Ch b A P.U := ⟨⟨K.1, State.isArrayOf_alike al K.2.1, K.2.2, by omega⟩, hty⟩
  have hS : StaticIs P.U ST "COMPACT_STRINGS" "Z" (.int z) := by
    obtain ⟨cfS, iS, kS, fS, st, cS, t1, t2, t3, t4, t5, t6, t7⟩ := S
    exact StaticIs.there (s := { Z with heap := P.U.heap }) ⟨cfS, iS, kS, fS, st, cS, t1, t2, t3, t4, t5, (fun q => by rw [q] at t6; cases t6), t7⟩ al rfl
  obtain ⟨v, B, X', ⟨⟨hv, E', V', q1, q2, q3, q4, q5, q6, q7, q8, q9, q10, q11⟩, hl, hc, hs⟩, st⟩ := New1.pays x D fV fC b A z (tab_of (moved hZ hw)) hfr hlo m meth c P g ig mk _ X hg hsize hdg hW hn ⟨r1, r2, rfl, hB, F1, F2, hA, hS, hz, l0, l2, hp⟩
  have al' : Z.vm.Alike B.U.vm := hZ.alike.trans X'.warmed.alike
  have hsz : E'.slots.size = D.slots.size := by
    obtain ⟨-, -, -, kB, w1, w2, w3⟩ := q1
    obtain ⟨kB', y1, y2⟩ := al'.2.2 _ _ e3
    rw [q2.2.1] at w1
    cases w1.symm.trans y1
    rw [w3, e5 i3, y2]
  refine ⟨v, B, X', ⟨_, ⟨hv, ?_, ⟨by omega, fun y cy hy hn' => q10 y cy (by simpa using hn') hy, fun y cy hy => ?_⟩, q11, ⟨E', _, q1.1, by rw [q2.2.1]; exact e2, by rw [q2.2.1]; exact e3, by rw [q2.1]; exact obV, fun _ => by rw [hsz]; exact e5 i3⟩,
    ⟨E', cfV, kV, iV, fV, q1.1, gV, stV, by rw [q2.1]; exact knV, by rw [q2.1]; exact obV, by rw [q2.2.1]; exact asV, q3⟩, ⟨E', cfC, kC, iC, fC, q1.1, gC, stC, by rw [q2.1]; exact knV, by rw [q2.1]; exact obV, by rw [q2.2.1]; exact asC, q4⟩,
    ⟨V', ⟨q5.1, State.isArrayOf_alike al'.symm q5.2.1, q5.2.2.1⟩, q6, by rw [← al'.findClass]; exact q7, q8, fun j hj => by have := q9 j hj; rwa [Nat.zero_add] at this⟩, fun O n d w F n1 n2 => ?_⟩, hl, hc, hs⟩, st⟩
  · intro y hy
    simp only [List.mem_cons, List.not_mem_nil, or_false] at hy
    rcases hy with rfl | rfl <;> rfl
  · by_cases q : y = x
    · subst q
      cases hD.symm.trans hy
      exact ⟨E', q1.1, q2.2.1, q2.1, hsz⟩
    · exact ⟨cy, q10 y cy q hy, rfl, rfl, rfl⟩
  · obtain ⟨D3, cf, k, i, f, g1, g2, g3, g4, g5, g6, g7⟩ := F
    cases hD.symm.trans g1
    simp only [RoadKit.slotOf, g2, gV, gC, Option.map_some, Option.getD_some] at n1 n2
    exact ⟨E', cf, k, i, f, q1.1, g2, g3, by rw [q2.1]; exact g4, by rw [q2.1]; exact g5, by rw [q2.2.1]; exact g6, by rw [q2.2.2 f.slot (by simp [n1, n2])]; exact g7⟩
end StrChars.Road
namespace StrChars.Road
open Jvm Sem ClassFile Op Lib Jvm.Stand Jvm.Free Jvm.Free.XT
/-- WHAT COMES BACK, the byte[] as a list of values -/
def QA (Z : State) (x : Addr) (zn : Int32) (cs : List Int32) (h : Heap) (v : Option Value) (h' : Heap) (L : List Loc) : Prop := v = none ∧ (∀ y ∈ L, y.base = x) ∧ RoadKit.Keep h h' [x] ∧ h'.size = h.size + 1 ∧ RoadKit.Exa Z h' x ST ∧ RoadKit.Fld Z h' x ST "value" "[B" (.ref h.size) ∧ RoadKit.Fld Z h' x ST "coder" "B" (.int 0) ∧
  (∃ kb, Z.vm.findClass "[B" = some kb ∧ RoadKit.Arv Z h' h.size kb .byte zn (cs.map fun c => .int (lo8 c)) (.int 0)) ∧
  ∀ (O n d : String) (w : Value), RoadKit.Fld Z h x O n d w → RoadKit.slotOf Z O n d ≠ RoadKit.slotOf Z ST "value" "[B" → RoadKit.slotOf Z O n d ≠ RoadKit.slotOf Z ST "coder" "B" → RoadKit.Fld Z h' x O n d w
/-- **new String(chars) AT A CALL, THE ARRAYS AS LISTS**: the char[] at b holds cs, not empty, no char above 255 -/
theorem backArv {p : Program} {l : Launch} {e : Env} {R : Room} {s : State} {args : Array Value} {below : List Frame} {len W : Nat} {Z : State} {a0 : Array Value} {h : Heap} (hZ : Z.Warmed39 s.vm) (hw : ∀ d ∈ words, d.before a0 Z = true) {kI : Nat} (wi : (Jvm.Cond.instantiable ST kI).before a0 Z = true)
    {x b : Addr} {k : ClassId} {zn z : Int32} {cs : List Int32} {dv v0 c0 : Value} (E : RoadKit.Exa Z h x ST) (V : RoadKit.Fld Z h x ST "value" "[B" v0) (C : RoadKit.Fld Z h x ST "coder" "B" c0) (K : RoadKit.Arv Z h b k .char zn (cs.map Value.int) dv) (S : RoadKit.Sta Z h ST "COMPACT_STRINGS" "Z" (.int z)) (hz : ¬ z = 0)
    (hlen : zn.toNatClampNeg = cs.length) (h0 : 0 < cs.length) (hbig : cs.length ≤ 536870912) (hall : ∀ c ∈ cs, ¬ 255 < c) (hfr : 4 ≤ R.frames) (hlo : W + 65 ≤ R.locals) :
    Back l R p e below s args New1.yN len W (fun P a => a = #[.ref x, .ref b] ∧ P.U.heap = h ∧ P.cells + 1 ≤ R.cells ∧ P.slots + cs.length ≤ R.slots)
      (fun P _ v B => ∃ L, QA Z x zn cs h v B.U.heap L ∧ B.locs = P.locs ++ L ∧ B.cells = P.cells + 1 ∧ B.slots = P.slots + cs.length) := by
  obtain ⟨A, K1, K2, K3, K4, K5, K6⟩ := K
  have e : A.slots.size = cs.length := K3.trans hlen
  have hat : ∀ (i : Nat) (hi : i < cs.length), A.slots[i]? = some (.int cs[i]) := fun i hi => by rw [K5 i (by omega)]; simp [List.getD_eq_getElem?_getD, hi]
  have hcv : ∀ (i : Nat) (hi : i < cs.length), cv A i = cs[i] := fun i hi => by unfold cv; rw [hat i hi]
  have hty : Typed .char A := fun i v hv => by
    have hi : i < A.slots.size := (Array.getElem?_eq_some_iff.mp hv).1
    have q := K5 i hi
    rw [hv] at q
    rw [Option.some.inj q]
    exact K6 i hi
  refine Back.mono (back hZ hw wi E V C K1 hty S hz (by omega) (by omega) (fun i hi => by rw [hcv i (by omega)]; exact hall _ (List.getElem_mem _)) hfr hlo) (fun P a hp => ⟨hp.1, hp.2.1, hp.2.2.1, by rw [e]; exact hp.2.2.2⟩) (fun P a v B hp hq => ?_)
  obtain ⟨L, ⟨q1, q2, q3, q4, q5, q6, q7, ⟨V', v1, v2, v3, v4, v5⟩, q9⟩, hl, hc, hs⟩ := hq
  refine ⟨L, ⟨q1, q2, q3, q4, q5, q6, q7, ⟨V'.cls, v3, V', v1, rfl, by rw [v4, e, hlen], K4, fun i hi => ?_, fun i hi => ?_⟩, q9⟩, hl, hc, by rw [hs, e]⟩
  · have hi' : i < cs.length := by omega
    rw [v5 i (by omega), hcv i hi']; simp [List.getD_eq_getElem?_getD, hi']
  · have hi' : i < cs.length := by omega
    simp only [List.getD_eq_getElem?_getD, List.getElem?_map, List.getElem?_eq_getElem hi', Option.map_some, Option.getD_some]
    exact fits_lo8 _
end StrChars.Road
namespace StrChars.Road
open Jvm Sem ClassFile Op Lib Jvm.Stand Jvm.Free Jvm.Free.XT
/-- WHAT COMES BACK, in the writer's own shape -/
def QV (Z : State) (x : Addr) (N : Int32) (bs : List Int32) (h : Heap) (n0 : Nat) (v : Option Value) (h' : Heap) (L : List Loc) : Prop := v = none ∧ RoadKit.Fr n0 L ∧ RoadKit.Keep h h' [x] ∧ RoadKit.Exa Z h' x ST ∧ RoadKit.Fld Z h' x ST "coder" "B" (.int 0) ∧
  ∃ (t : Addr) (kb : ClassId), n0 ≤ t ∧ h.size ≤ t ∧ ¬ t = x ∧ RoadKit.Fld Z h' x ST "value" "[B" (.ref t) ∧ RoadKit.Arv Z h' t kb .byte N (bs.map Value.int) (.int 0)
/-- **new String(chars) AT A CALL, FOR THE WRITER**: a char[] of n known ints, each 0 to 255 -/
theorem backV {p : Program} {l : Launch} {e : Env} {R : Room} {s : State} {args : Array Value} {below : List Frame} {len W : Nat} {Z : State} {a0 : Array Value} {h : Heap} (hZ : Z.Warmed39 s.vm) (hw : ∀ d ∈ words, d.before a0 Z = true) {kI : Nat} (wi : (Jvm.Cond.instantiable ST kI).before a0 Z = true)
    {x b : Addr} {kC : ClassId} {cs bs : List Int32} {d v0 c0 : Value} {z N : Int32} {n n0 : Nat} (hx0 : n0 ≤ x) (hh0 : n0 ≤ h.size) (E : RoadKit.Exa Z h x ST) (V : RoadKit.Fld Z h x ST "value" "[B" v0) (C : RoadKit.Fld Z h x ST "coder" "B" c0) (K : RoadKit.Arv Z h b kC .char N (cs.map Value.int) d) (S : RoadKit.Sta Z h ST "COMPACT_STRINGS" "Z" (.int z)) (hz : ¬ z = 0)
    (hn : cs.length = n) (hN : N = Int32.ofNat n) (l0 : 0 < n) (l2 : n ≤ 4000) (hp : ∀ c ∈ cs, ¬ c < 0 ∧ ¬ (255 : Int32) < c) (hb : bs = cs.map (fun c => c.toInt8.toInt32)) (hfr : 4 ≤ R.frames) (hlo : W + 65 ≤ R.locals) :
    Back l R p e below s args (⟨"java/lang/String", "<init>", "([C)V"⟩ : MethodName) len W (fun P a => a = #[.ref x, .ref b] ∧ P.U.heap = h ∧ P.cells + 1 ≤ R.cells ∧ P.slots + n ≤ R.slots)
      (fun P _ v B => ∃ L, QV Z x N bs h n0 v B.U.heap L ∧ B.locs = P.locs ++ L ∧ B.cells = P.cells + 1 ∧ B.slots = P.slots + n) := by
  subst hn hN hb
  refine Back.mono (backArv hZ hw wi E V C K S hz (n32 (by omega)) l0 (by omega) (fun c hc => (hp c hc).2) hfr hlo) (fun P a hp => hp) (fun P a v B hp hq => ?_)
  obtain ⟨L, ⟨q1, q2, q3, q4, q5, q6, q7, ⟨kb, v1, v2⟩, q9⟩, hl, hc, hs⟩ := hq
  exact ⟨L, ⟨q1, fun y hy => by rw [q2 y hy]; exact hx0, q3, q5, q7, h.size, kb, hh0, Nat.le_refl _, Nat.ne_of_gt E.lt, q6, by rw [List.map_map]; exact v2⟩, hl, hc, hs⟩
end StrChars.Road
end Jvm.Pilot.@@N@@

namespace Jvm.Pilot.@@N@@
open Jvm Jvm.ClassFile Sem Op Lib Jvm.Free Jvm.Stand Jvm.LawKit Jvm.RoadKit Bundle Jvm.Pilot.@@N@@.Jvm.D
/-- Java's x >>> y on longs -/
def own_uL (x : Int64) (y : Int32) : Int64 := (x.toUInt64 >>> (y &&& 63).toInt64.toUInt64).toInt64
section Own
variable {p : Program} {l : Launch} {e : Env} {R : Room} {s : State} {m : MethodId} {args : Array Value} {below : List Frame} {meth : Method} {c : Code} {T : State} {locs : List Loc} {cells slots : Nat}
variable {ck sk : Nat} {Q : Option Value → Heap → List Loc → Prop}
/-- the run from u comes to the method's return, and Q holds there -/
def oF (p : Program) (e : Env) (below : List Frame) (s : State) (ck sk : Nat) (Q : Option Value → Heap → List Loc → Prop) (u : State) : Prop :=
  ∃ t o, Steps p.tables e below u t ∧ t.status = .running ∧ Ended t below o ∧ ∃ v L, o = .returned v ∧ Q v t.heap L ∧ FrameEnd s o t L ck sk
theorem oS {u u' : State} (h : ∀ t, Steps p.tables e below u' t → Steps p.tables e below u t) (k : oF p e below s ck sk Q u') : oF p e below s ck sk Q u := by
  obtain ⟨t, o, h1, r⟩ := k
  exact ⟨t, o, h t h1, r⟩
theorem oC {u : State} (X : Stand p l e R s m args below meth c T locs cells slots) {h : Heap} (E : T.heap = h) {f : JFrame}
    (rest : ∀ Tc, Stand p l e R s m args below meth c Tc locs cells slots → Tc.heap = h → oF p e below s ck sk Q (Tc.setTop f))
    (k : (∀ Tc, Stand p l e R s m args below meth c Tc locs cells slots → Tc.heap = h → oF p e below s ck sk Q (Tc.setTop f)) → oF p e below s ck sk Q u) : oF p e below s ck sk Q u := k rest
theorem oCA {u : State} (X : Stand p l e R s m args below meth c T locs cells slots) {h : Heap} (E : T.heap = h) {f : Addr → JFrame}
    (rest : ∀ z Tc, Stand p l e R s m args below meth c Tc locs cells slots → Tc.heap = h → oF p e below s ck sk Q (Tc.setTop (f z)))
    (k : (∀ z Tc, Stand p l e R s m args below meth c Tc locs cells slots → Tc.heap = h → oF p e below s ck sk Q (Tc.setTop (f z))) → oF p e below s ck sk Q u) : oF p e below s ck sk Q u := k rest
theorem own_ret (X : Stand p l e R s m args below meth c T locs cells slots) (hlk : meth.locks = false) {v : Option Value} (hv : meth.sig.returnType = none → v = none) {g : JFrame}
    (st : ∀ fs, (∀ (f : JFrame) (acts : List Action), f.method = m → f.locked = none → f.entered = [] → (doReturn e (T.setTop f) acts v).1 = T.setFrames fs) → Steps p.tables e below (T.setTop g) (T.setFrames fs))
    (hQ : Q v T.heap locs) (hc : cells ≤ ck) (hs : slots ≤ sk) : oF p e below s ck sk Q (T.setTop g) := by
  obtain ⟨fs, hr, hrun, hended, hW, hsame⟩ := X.leave (v := v) hv hlk
  exact ⟨_, _, st fs hr, hrun, hended, v, locs, rfl, hQ, ⟨_, rfl⟩, hW, hsame.mono hc hs⟩
theorem own_retI (X : Stand p l e R s m args below meth c T locs cells slots) (hx : p.tables.exec = Jvm.exec) (hlk : meth.locks = false) {pc : Nat} {Ls : Array Slot} {z : Int32} {rest : List Value} (hret : meth.sig.returnType = some .int)
    (hd : decode c.code pc = .ok (.ireturn, 1)) (hQ : Q (some (.int z)) T.heap locs) (hc : cells ≤ ck) (hs : slots ≤ sk) : oF p e below s ck sk Q (T.setTop (mkF m pc Ls (.int z :: rest))) :=
  own_ret X hlk (fun h => by rw [hret] at h; cases h) (fun fs hl => retOut X hx hret rfl (Or.inl ⟨rfl, Or.inl rfl, _, rfl⟩) hd hl) hQ hc hs
theorem own_retJ (X : Stand p l e R s m args below meth c T locs cells slots) (hx : p.tables.exec = Jvm.exec) (hlk : meth.locks = false) {pc : Nat} {Ls : Array Slot} {z : Int64} {rest : List Value} (hret : meth.sig.returnType = some .long)
    (hd : decode c.code pc = .ok (.lreturn, 1)) (hQ : Q (some (.long z)) T.heap locs) (hc : cells ≤ ck) (hs : slots ≤ sk) : oF p e below s ck sk Q (T.setTop (mkF m pc Ls (.long z :: rest))) :=
  own_ret X hlk (fun h => by rw [hret] at h; cases h) (fun fs hl => retOut X hx hret rfl (Or.inr (Or.inl ⟨rfl, rfl, _, rfl⟩)) hd hl) hQ hc hs
theorem own_retD (X : Stand p l e R s m args below meth c T locs cells slots) (hx : p.tables.exec = Jvm.exec) (hlk : meth.locks = false) {pc : Nat} {Ls : Array Slot} {z : UInt64} {rest : List Value} (hret : meth.sig.returnType = some .double)
    (hd : decode c.code pc = .ok (.dreturn, 1)) (hQ : Q (some (.double z)) T.heap locs) (hc : cells ≤ ck) (hs : slots ≤ sk) : oF p e below s ck sk Q (T.setTop (mkF m pc Ls (.double z :: rest))) :=
  own_ret X hlk (fun h => by rw [hret] at h; cases h) (fun fs hl => retOut X hx hret rfl (Or.inr (Or.inr (Or.inl ⟨rfl, rfl, _, rfl⟩))) hd hl) hQ hc hs
theorem own_retA (X : Stand p l e R s m args below meth c T locs cells slots) (hx : p.tables.exec = Jvm.exec) (hlk : meth.locks = false) {pc : Nat} {Ls : Array Slot} {w : Value} {t : FieldType} {rest : List Value} (hret : meth.sig.returnType = some t) (ht : t.isReference = true) (hr : w.isRef = true)
    (hd : decode c.code pc = .ok (.areturn, 1)) (hQ : Q (some w) T.heap locs) (hc : cells ≤ ck) (hs : slots ≤ sk) : oF p e below s ck sk Q (T.setTop (mkF m pc Ls (w :: rest))) :=
  own_ret X hlk (fun h => by rw [hret] at h; cases h) (fun fs hl => retOut X hx hret (by cases t <;> first | (cases ht; done) | (cases w <;> first | rfl | (cases hr; done))) (Or.inr (Or.inr (Or.inr (Or.inr ⟨rfl, ht, hr⟩)))) hd hl) hQ hc hs
theorem own_retN (X : Stand p l e R s m args below meth c T locs cells slots) (hx : p.tables.exec = Jvm.exec) (hlk : meth.locks = false) {pc : Nat} {Ls : Array Slot} {z : Int32} {t : FieldType} {rest : List Value} (hret : meth.sig.returnType = some t) (ht : t = .boolean ∨ t = .byte ∨ t = .char ∨ t = .short)
    (hd : decode c.code pc = .ok (.ireturn, 1)) (hQ : Q (some (.int (nar t z))) T.heap locs) (hc : cells ≤ ck) (hs : slots ≤ sk) : oF p e below s ck sk Q (T.setTop (mkF m pc Ls (.int z :: rest))) :=
  own_ret X hlk (fun h => by rw [hret] at h; cases h) (fun fs hl => retN X hx hret ht hd hl) hQ hc hs
theorem own_ret0 (X : Stand p l e R s m args below meth c T locs cells slots) (hx : p.tables.exec = Jvm.exec) (hlk : meth.locks = false) {pc : Nat} {Ls : Array Slot} (hret : meth.sig.returnType = none)
    (hd : decode c.code pc = .ok (.return_, 1)) (hQ : Q none T.heap locs) (hc : cells ≤ ck) (hs : slots ≤ sk) : oF p e below s ck sk Q (T.setTop (mkF m pc Ls [])) :=
  own_ret X hlk (fun _ => rfl) (fun fs hl => X.returnOut hx hret hd hl) hQ hc hs
/-- a body's contract: called with as' on the heap h it returns, and Q says what it leaves -/
def own_Con (l : Launch) (Z : State) (ws : List Jvm.Cond) (y : MethodName) (bytes : ByteArray) (maxL : Nat) (rt : Option FieldType) (rm : Room) (as' : Array Value) (h : Heap) (Q : Option Value → Heap → List Loc → Prop) : Prop :=
  MetFree l y (head1 (Jvm.Cond.code y bytes maxL rt :: ws) rm) (fun a U => a = as' ∧ Z.Warmed39 U.vm ∧ U.heap = h) (fun _ _ _ _ _ => True) (fun _ U o U' => ∃ v L, o = .returned v ∧ Q v U'.heap L ∧ FrameEnd U o U' L rm.cells rm.slots)
/-- it returns r, and the heap is as it was -/
def own_Q1 (r : Option Value) (h : Heap) : Option Value → Heap → List Loc → Prop := fun v h' L => v = r ∧ h' = h ∧ L = []
variable {Z : State} {a0 : Array Value} {h h' : Heap}
theorem own_body {ws : List Jvm.Cond} {y : MethodName} {bytes : ByteArray} {maxL : Nat} {rt : Option FieldType} {rm : Room} {as' : Array Value} (hpn : plainFor y = true)
    (H : ∀ (p : Program) (e : Env) (s : State) (m : MethodId) (below : List Frame) (meth : Method) (c : Code) (s₁ : State), Stand p l e rm s m as' below meth c s₁ [] 0 0 → p.tables.exec = Jvm.exec → c.code = bytes → c.maxLocals = maxL → meth.sig.returnType = rt → meth.locks = false → s.vm.findClass y.cls = some m.cls → meth.name = y.name → Z.Warmed39 s.vm → s₁.heap = h →
      oF p e below s rm.cells rm.slots Q (s₁.setTop (entryFrame m as' maxL))) : own_Con l Z ws y bytes maxL rt rm as' h Q := by
  refine MetFree.of_bodySF hpn hisR ?_
  intro p e s m args below meth c s₁ Bd hml0 hP hK
  obtain ⟨rfl, hZ, hh⟩ := hP
  exact H p e s m below meth c s₁ (Stand.of_body Bd) Bd.exec Bd.bytes hml0 Bd.returns (BodyLoose.notSynchronized Bd) (findClass_of_methodNamed Bd.named) (name_of_methodNamed Bd.named Bd.method).1 hZ (by rw [← hh, Bd.state]; rfl)
theorem own_callS (X : Stand p l e R s m args below meth c T locs cells slots) (hx : p.tables.exec = Jvm.exec) (hZ : Z.Warmed39 s.vm) {own : String} {index : Nat} {y : MethodName} {bytes : ByteArray} {maxL : Nat} {rt : Option FieldType} (hown : s.vm.findClass own = some m.cls)
    (w1 : (Jvm.Cond.methodLink own index y).before a0 Z = true) (w2 : (Jvm.Cond.static y).before a0 Z = true) (w4 : (Jvm.Cond.code y bytes maxL rt).before a0 Z = true) (w3 : (Jvm.Cond.initialized y.cls).before a0 Z = true) (hy : y.cls ≠ "java/lang/invoke/MethodHandle" ∧ y.cls ≠ "java/lang/invoke/VarHandle")
    (eT : T.heap = h) {rm : Room} {W : Nat} {argsL rest : List Value} (K : own_Con l Z [] y bytes maxL rt rm argsL.toArray h Q) (hf : rm.frames + 1 ≤ R.frames) (hl : W + (maxL + 11) + rm.locals ≤ R.locals)
    {g : JFrame} (hg : g.method = m) (hsize : g.locals.size = c.maxLocals) (hlen : ∀ sig, parseMethodDescriptor y.desc = some sig → argsL.length = sig.parameters.length)
    (hstack : g.stack = argsL.reverse ++ rest) (hW : 2 * g.monitorRoom + (rest.map fun v => v.category).sum ≤ W) (hdg : decode c.code g.pc = .ok (.invokestatic index, 3)) (hc : cells + rm.cells ≤ R.cells) (hs : slots + rm.slots ≤ R.slots) :
    ∃ (v : Option Value) (T' : State) (L : List Loc), Stand p l e R s m args below meth c T' (locs ++ L) (cells + rm.cells) (slots + rm.slots) ∧ Q v T'.heap L ∧
      ∀ target, Steps p.tables e below (T'.setTop { g with pc := g.pc + 3, stack := v.toList ++ rest }) target → Steps p.tables e below (T.setTop g) target := by
  obtain ⟨v, _, ⟨T', L', k', n'⟩, -, X', ⟨L, hQ, q1, q2, q3⟩, st⟩ := Jvm.LawKit.callS X hx hown (mvT hZ w1) (mvT hZ w2) (mvT hZ w3) (mvT hZ w4) hy (backOf (W := W) K hZ w4 w3 hf hl) hg hsize hlen hstack hW hdg (fun _ _ => ⟨rfl, eT, hc, hs⟩)
  dsimp only [Pt.U, Pt.locs, Pt.cells, Pt.slots] at X' q1 q2 q3 st hQ
  subst q1 q2 q3
  exact ⟨v, T', L, X', hQ, st⟩
theorem own_callSP (X : Stand p l e R s m args below meth c T locs cells slots) (hx : p.tables.exec = Jvm.exec) (hZ : Z.Warmed39 s.vm) {own : String} {index : Nat} {y : MethodName} {bytes : ByteArray} {maxL : Nat} {rt : Option FieldType} (hown : s.vm.findClass own = some m.cls)
    (w1 : (Jvm.Cond.methodLink own index y).before a0 Z = true) (w2 : (Jvm.Cond.static y).before a0 Z = true) (w4 : (Jvm.Cond.code y bytes maxL rt).before a0 Z = true) (w3 : (Jvm.Cond.initialized y.cls).before a0 Z = true) (hy : y.cls ≠ "java/lang/invoke/MethodHandle" ∧ y.cls ≠ "java/lang/invoke/VarHandle")
    (eT : T.heap = h) {rf rl : Nat} {W : Nat} {argsL rest : List Value} {r : Value} (K : own_Con l Z [] y bytes maxL rt { frames := rf, cells := 0, slots := 0, locals := rl } argsL.toArray h (own_Q1 (some r) h)) (hf : rf + 1 ≤ R.frames) (hl : W + (maxL + 11) + rl ≤ R.locals)
    {g : JFrame} (hg : g.method = m) (hsize : g.locals.size = c.maxLocals) (hlen : ∀ sig, parseMethodDescriptor y.desc = some sig → argsL.length = sig.parameters.length)
    (hstack : g.stack = argsL.reverse ++ rest) (hW : 2 * g.monitorRoom + (rest.map fun v => v.category).sum ≤ W) (hdg : decode c.code g.pc = .ok (.invokestatic index, 3)) (hc : cells ≤ R.cells) (hs : slots ≤ R.slots) :
    ∃ T' : State, Stand p l e R s m args below meth c T' locs cells slots ∧ T'.heap = h ∧
      ∀ target, Steps p.tables e below (T'.setTop { g with pc := g.pc + 3, stack := r :: rest }) target → Steps p.tables e below (T.setTop g) target := by
  obtain ⟨v, T', L, X', ⟨rfl, hh, rfl⟩, st⟩ := own_callS X hx hZ hown w1 w2 w4 w3 hy eT (W := W) K hf hl hg hsize hlen hstack hW hdg hc hs
  rw [List.append_nil] at X'
  exact ⟨T', X', hh, st⟩
theorem own_callI (X : Stand p l e R s m args below meth c T locs cells slots) (hx : p.tables.exec = Jvm.exec) (hZ : Z.Warmed39 s.vm) {own : String} {index : Nat} {y : MethodName} (hy1 : y.name = "<init>") {bytes : ByteArray} {maxL : Nat} (hown : s.vm.findClass own = some m.cls)
    (w1 : (Jvm.Cond.methodLink own index y).before a0 Z = true) (w2 : (Jvm.Cond.instanceMethod y).before a0 Z = true) (w4 : (Jvm.Cond.code y bytes maxL none).before a0 Z = true) (w3 : (Jvm.Cond.initialized y.cls).before a0 Z = true) (hy : y.cls ≠ "java/lang/invoke/MethodHandle" ∧ y.cls ≠ "java/lang/invoke/VarHandle")
    (eT : T.heap = h) {rm : Room} {W : Nat} {a : Addr} {argsL rest : List Value} (K : own_Con l Z [] y bytes maxL none rm (.ref a :: argsL).toArray h Q) (hf : rm.frames + 1 ≤ R.frames) (hl : W + (maxL + 11) + rm.locals ≤ R.locals)
    {g : JFrame} (hg : g.method = m) (hsize : g.locals.size = c.maxLocals) (hlen : ∀ sig, parseMethodDescriptor y.desc = some sig → argsL.length = sig.parameters.length)
    (hstack : g.stack = argsL.reverse ++ .ref a :: rest) (hW : 2 * g.monitorRoom + (rest.map fun v => v.category).sum ≤ W) (hdg : decode c.code g.pc = .ok (.invokespecial index, 3)) (hc : cells + rm.cells ≤ R.cells) (hs : slots + rm.slots ≤ R.slots) :
    ∃ (v : Option Value) (T' : State) (L : List Loc), Stand p l e R s m args below meth c T' (locs ++ L) (cells + rm.cells) (slots + rm.slots) ∧ Q v T'.heap L ∧
      ∀ target, Steps p.tables e below (T'.setTop { g with pc := g.pc + 3, stack := v.toList ++ rest }) target → Steps p.tables e below (T.setTop g) target := by
  obtain ⟨v, _, ⟨T', L', k', n'⟩, -, X', ⟨L, hQ, q1, q2, q3⟩, st⟩ := X.specialBack hx hy1 hown (mvT hZ w1) (mvT hZ w2) (mvT hZ w4) hy (backOf (W := W) K hZ w4 w3 hf hl) hg hsize (Steps.refl _) (a := a) hlen hstack hW hdg (fun _ _ => ⟨rfl, eT, hc, hs⟩)
  dsimp only [Pt.U, Pt.locs, Pt.cells, Pt.slots] at X' q1 q2 q3 st hQ
  subst q1 q2 q3
  exact ⟨v, T', L, X', hQ, fun t k => st.trans k⟩
theorem own_callIP (X : Stand p l e R s m args below meth c T locs cells slots) (hx : p.tables.exec = Jvm.exec) (hZ : Z.Warmed39 s.vm) {own : String} {index : Nat} {y : MethodName} (hy1 : y.name = "<init>") {bytes : ByteArray} {maxL : Nat} (hown : s.vm.findClass own = some m.cls)
    (w1 : (Jvm.Cond.methodLink own index y).before a0 Z = true) (w2 : (Jvm.Cond.instanceMethod y).before a0 Z = true) (w4 : (Jvm.Cond.code y bytes maxL none).before a0 Z = true) (w3 : (Jvm.Cond.initialized y.cls).before a0 Z = true) (hy : y.cls ≠ "java/lang/invoke/MethodHandle" ∧ y.cls ≠ "java/lang/invoke/VarHandle")
    (eT : T.heap = h) {rf rl : Nat} {W : Nat} {a : Addr} {argsL rest : List Value} (K : own_Con l Z [] y bytes maxL none { frames := rf, cells := 0, slots := 0, locals := rl } (.ref a :: argsL).toArray h (own_Q1 none h)) (hf : rf + 1 ≤ R.frames) (hl : W + (maxL + 11) + rl ≤ R.locals)
    {g : JFrame} (hg : g.method = m) (hsize : g.locals.size = c.maxLocals) (hlen : ∀ sig, parseMethodDescriptor y.desc = some sig → argsL.length = sig.parameters.length)
    (hstack : g.stack = argsL.reverse ++ .ref a :: rest) (hW : 2 * g.monitorRoom + (rest.map fun v => v.category).sum ≤ W) (hdg : decode c.code g.pc = .ok (.invokespecial index, 3)) (hc : cells ≤ R.cells) (hs : slots ≤ R.slots) :
    ∃ T' : State, Stand p l e R s m args below meth c T' locs cells slots ∧ T'.heap = h ∧
      ∀ target, Steps p.tables e below (T'.setTop { g with pc := g.pc + 3, stack := rest }) target → Steps p.tables e below (T.setTop g) target := by
  obtain ⟨v, T', L, X', ⟨rfl, hh, rfl⟩, st⟩ := own_callI X hx hZ hy1 hown w1 w2 w4 w3 hy eT (W := W) K hf hl hg hsize hlen hstack hW hdg hc hs
  rw [List.append_nil] at X'
  exact ⟨T', X', hh, st⟩
theorem own_callV (X : Stand p l e R s m args below meth c T locs cells slots) (hx : p.tables.exec = Jvm.exec) (hZ : Z.Warmed39 s.vm) {own C : String} {index : Nat} {y z : MethodName} {bytes : ByteArray} {maxL : Nat} {rt : Option FieldType} (hown : s.vm.findClass own = some m.cls)
    (w1 : (Jvm.Cond.methodLink own index y).before a0 Z = true) (w2 : (Jvm.Cond.declares y).before a0 Z = true) (hnf : NotFace s y) (ws : (Jvm.Cond.selects C y z).before a0 Z = true) (wi : (Jvm.Cond.instanceMethod z).before a0 Z = true) (hy : y.cls ≠ "java/lang/invoke/MethodHandle" ∧ y.cls ≠ "java/lang/invoke/VarHandle")
    (eT : T.heap = h) {b : Addr} (E : Exa Z h b C) {rm : Room} {W : Nat} {argsL rest : List Value} (K : own_Con l Z [] z bytes maxL rt rm (.ref b :: argsL).toArray h Q) (w4 : (Jvm.Cond.code z bytes maxL rt).before a0 Z = true) (w3 : (Jvm.Cond.initialized z.cls).before a0 Z = true) (hf : rm.frames + 1 ≤ R.frames) (hl : W + (maxL + 11) + rm.locals ≤ R.locals)
    {g : JFrame} (hg : g.method = m) (hsize : g.locals.size = c.maxLocals) (hlen : ∀ sig, parseMethodDescriptor y.desc = some sig → argsL.length = sig.parameters.length)
    (hstack : g.stack = argsL.reverse ++ .ref b :: rest) (hW : 2 * g.monitorRoom + (rest.map fun v => v.category).sum ≤ W) (hdg : decode c.code g.pc = .ok (.invokevirtual index, 3)) (hc : cells + rm.cells ≤ R.cells) (hs : slots + rm.slots ≤ R.slots) :
    ∃ (v : Option Value) (T' : State) (L : List Loc), Stand p l e R s m args below meth c T' (locs ++ L) (cells + rm.cells) (slots + rm.slots) ∧ Q v T'.heap L ∧
      ∀ target, Steps p.tables e below (T'.setTop { g with pc := g.pc + 3, stack := v.toList ++ rest }) target → Steps p.tables e below (T.setTop g) target := by
  obtain ⟨cq, kq, qa, qb, qc⟩ := isOf hZ eT E
  obtain ⟨v, _, ⟨T', L', k', n'⟩, -, X', ⟨L, hQ, q1, q2, q3⟩, st⟩ := X.virtualBack hx hown (mvT hZ w1) (mvT hZ w2) hnf (mvT hZ ws) (mvT hZ wi) hy (backOf (W := W) K hZ w4 w3 hf hl) qa qc hg hsize (Steps.refl _) hlen hstack hW hdg (fun _ _ => ⟨rfl, eT, hc, hs⟩)
  dsimp only [Pt.U, Pt.locs, Pt.cells, Pt.slots] at X' q1 q2 q3 st hQ
  subst q1 q2 q3
  exact ⟨v, T', L, X', hQ, fun t k => st.trans k⟩
theorem own_callVP (X : Stand p l e R s m args below meth c T locs cells slots) (hx : p.tables.exec = Jvm.exec) (hZ : Z.Warmed39 s.vm) {own C : String} {index : Nat} {y z : MethodName} {bytes : ByteArray} {maxL : Nat} {rt : Option FieldType} (hown : s.vm.findClass own = some m.cls)
    (w1 : (Jvm.Cond.methodLink own index y).before a0 Z = true) (w2 : (Jvm.Cond.declares y).before a0 Z = true) (hnf : NotFace s y) (ws : (Jvm.Cond.selects C y z).before a0 Z = true) (wi : (Jvm.Cond.instanceMethod z).before a0 Z = true) (hy : y.cls ≠ "java/lang/invoke/MethodHandle" ∧ y.cls ≠ "java/lang/invoke/VarHandle")
    (eT : T.heap = h) {b : Addr} (E : Exa Z h b C) {rf rl : Nat} {W : Nat} {argsL rest : List Value} {r : Value} (K : own_Con l Z [] z bytes maxL rt { frames := rf, cells := 0, slots := 0, locals := rl } (.ref b :: argsL).toArray h (own_Q1 (some r) h)) (w4 : (Jvm.Cond.code z bytes maxL rt).before a0 Z = true) (w3 : (Jvm.Cond.initialized z.cls).before a0 Z = true) (hf : rf + 1 ≤ R.frames) (hl : W + (maxL + 11) + rl ≤ R.locals)
    {g : JFrame} (hg : g.method = m) (hsize : g.locals.size = c.maxLocals) (hlen : ∀ sig, parseMethodDescriptor y.desc = some sig → argsL.length = sig.parameters.length)
    (hstack : g.stack = argsL.reverse ++ .ref b :: rest) (hW : 2 * g.monitorRoom + (rest.map fun v => v.category).sum ≤ W) (hdg : decode c.code g.pc = .ok (.invokevirtual index, 3)) (hc : cells ≤ R.cells) (hs : slots ≤ R.slots) :
    ∃ T' : State, Stand p l e R s m args below meth c T' locs cells slots ∧ T'.heap = h ∧
      ∀ target, Steps p.tables e below (T'.setTop { g with pc := g.pc + 3, stack := r :: rest }) target → Steps p.tables e below (T.setTop g) target := by
  obtain ⟨v, T', L, X', ⟨rfl, hh, rfl⟩, st⟩ := own_callV X hx hZ hown w1 w2 hnf ws wi hy eT E (W := W) K w4 w3 hf hl hg hsize hlen hstack hW hdg hc hs
  rw [List.append_nil] at X'
  exact ⟨T', X', hh, st⟩
theorem own_kext {h h' : Heap} (K : Keep h h' []) : Ext h h' := ⟨K.1, fun a c q => K.2.1 a c q nin0⟩
theorem own_callIB (X : Stand p l e R s m args below meth c T locs cells slots) (hx : p.tables.exec = Jvm.exec) (hZ : Z.Warmed39 s.vm) {own : String} {index : Nat} {y : MethodName} (hy1 : y.name = "<init>") {bytes : ByteArray} {maxL : Nat} (hown : s.vm.findClass own = some m.cls)
    (w1 : (Jvm.Cond.methodLink own index y).before a0 Z = true) (w2 : (Jvm.Cond.instanceMethod y).before a0 Z = true) (w4 : (Jvm.Cond.code y bytes maxL none).before a0 Z = true) (hy : y.cls ≠ "java/lang/invoke/MethodHandle" ∧ y.cls ≠ "java/lang/invoke/VarHandle")
    (eT : T.heap = h) {W kc ks : Nat} {a : Addr} {argsL rest : List Value} (K : Back l R p e below s args y 3 W (fun A a' => a' = (.ref a :: argsL).toArray ∧ A.U.heap = h ∧ A.cells + kc ≤ R.cells ∧ A.slots + ks ≤ R.slots) (fun A _ v B => ∃ L, Q v B.U.heap L ∧ B.locs = A.locs ++ L ∧ B.cells = A.cells + kc ∧ B.slots = A.slots + ks))
    {g : JFrame} (hg : g.method = m) (hsize : g.locals.size = c.maxLocals) (hlen : ∀ sig, parseMethodDescriptor y.desc = some sig → argsL.length = sig.parameters.length)
    (hstack : g.stack = argsL.reverse ++ .ref a :: rest) (hW : 2 * g.monitorRoom + (rest.map fun v => v.category).sum ≤ W) (hdg : decode c.code g.pc = .ok (.invokespecial index, 3)) (hc : cells + kc ≤ R.cells) (hs : slots + ks ≤ R.slots) :
    ∃ (v : Option Value) (T' : State) (L : List Loc), Stand p l e R s m args below meth c T' (locs ++ L) (cells + kc) (slots + ks) ∧ Q v T'.heap L ∧
      ∀ target, Steps p.tables e below (T'.setTop { g with pc := g.pc + 3, stack := v.toList ++ rest }) target → Steps p.tables e below (T.setTop g) target := by
  obtain ⟨v, _, ⟨T', L', k', n'⟩, -, X', ⟨L, hQ, q1, q2, q3⟩, st⟩ := X.specialBack hx hy1 hown (mvT hZ w1) (mvT hZ w2) (mvT hZ w4) hy K hg hsize (Steps.refl _) (a := a) hlen hstack hW hdg (fun _ _ => ⟨rfl, eT, hc, hs⟩)
  dsimp only [Pt.U, Pt.locs, Pt.cells, Pt.slots] at X' q1 q2 q3 st hQ
  subst q1 q2 q3
  exact ⟨v, T', L, X', hQ, fun t k => st.trans k⟩
theorem own_callVB (X : Stand p l e R s m args below meth c T locs cells slots) (hx : p.tables.exec = Jvm.exec) (hZ : Z.Warmed39 s.vm) {own C : String} {index : Nat} {y z : MethodName} (hown : s.vm.findClass own = some m.cls)
    (w1 : (Jvm.Cond.methodLink own index y).before a0 Z = true) (w2 : (Jvm.Cond.declares y).before a0 Z = true) (hnf : NotFace s y) (ws : (Jvm.Cond.selects C y z).before a0 Z = true) (wi : (Jvm.Cond.instanceMethod z).before a0 Z = true) (hy : y.cls ≠ "java/lang/invoke/MethodHandle" ∧ y.cls ≠ "java/lang/invoke/VarHandle")
    (eT : T.heap = h) {b : Addr} (E : Exa Z h b C) {W kc ks : Nat} {argsL rest : List Value} (K : Back l R p e below s args z 3 W (fun A a' => a' = (.ref b :: argsL).toArray ∧ A.U.heap = h ∧ A.cells + kc ≤ R.cells ∧ A.slots + ks ≤ R.slots) (fun A _ v B => ∃ L, Q v B.U.heap L ∧ B.locs = A.locs ++ L ∧ B.cells = A.cells + kc ∧ B.slots = A.slots + ks))
    {g : JFrame} (hg : g.method = m) (hsize : g.locals.size = c.maxLocals) (hlen : ∀ sig, parseMethodDescriptor y.desc = some sig → argsL.length = sig.parameters.length)
    (hstack : g.stack = argsL.reverse ++ .ref b :: rest) (hW : 2 * g.monitorRoom + (rest.map fun v => v.category).sum ≤ W) (hdg : decode c.code g.pc = .ok (.invokevirtual index, 3)) (hc : cells + kc ≤ R.cells) (hs : slots + ks ≤ R.slots) :
    ∃ (v : Option Value) (T' : State) (L : List Loc), Stand p l e R s m args below meth c T' (locs ++ L) (cells + kc) (slots + ks) ∧ Q v T'.heap L ∧
      ∀ target, Steps p.tables e below (T'.setTop { g with pc := g.pc + 3, stack := v.toList ++ rest }) target → Steps p.tables e below (T.setTop g) target := by
  obtain ⟨cq, kq, qa, qb, qc⟩ := isOf hZ eT E
  obtain ⟨v, _, ⟨T', L', k', n'⟩, -, X', ⟨L, hQ, q1, q2, q3⟩, st⟩ := X.virtualBack hx hown (mvT hZ w1) (mvT hZ w2) hnf (mvT hZ ws) (mvT hZ wi) hy K qa qc hg hsize (Steps.refl _) hlen hstack hW hdg (fun _ _ => ⟨rfl, eT, hc, hs⟩)
  dsimp only [Pt.U, Pt.locs, Pt.cells, Pt.slots] at X' q1 q2 q3 st hQ
  subst q1 q2 q3
  exact ⟨v, T', L, X', hQ, fun t k => st.trans k⟩
theorem own_cl_eq {x y : Int64} (h : x = y) : Jvm.Free.XT.cmpL x y = 0 := by
  subst h; unfold Jvm.Free.XT.cmpL
  rw [if_neg (by rw [Int64.lt_iff_toInt_lt]; omega), if_pos rfl]
theorem own_cl_eq_n {x y : Int64} (h : ¬ x = y) : ¬ Jvm.Free.XT.cmpL x y = 0 := by
  unfold Jvm.Free.XT.cmpL
  by_cases h1 : y < x
  · rw [if_pos h1]; decide
  · rw [if_neg h1, if_neg h]; decide
theorem own_cl_gt {x y : Int64} (h : y < x) : (0 : Int32) < Jvm.Free.XT.cmpL x y := by
  unfold Jvm.Free.XT.cmpL; rw [if_pos h]; decide
theorem own_cl_gt_n {x y : Int64} (h : ¬ y < x) : ¬ (0 : Int32) < Jvm.Free.XT.cmpL x y := by
  unfold Jvm.Free.XT.cmpL; rw [if_neg h]
  by_cases h1 : x = y
  · rw [if_pos h1]; decide
  · rw [if_neg h1]; decide
theorem own_cl_lt {x y : Int64} (h : x < y) : Jvm.Free.XT.cmpL x y < (0 : Int32) := by
  unfold Jvm.Free.XT.cmpL
  rw [if_neg (by rw [Int64.lt_iff_toInt_lt] at h ⊢; omega), if_neg (by intro q; subst q; rw [Int64.lt_iff_toInt_lt] at h; omega)]; decide
theorem own_cl_lt_n {x y : Int64} (h : ¬ x < y) : ¬ Jvm.Free.XT.cmpL x y < (0 : Int32) := by
  unfold Jvm.Free.XT.cmpL
  by_cases h1 : y < x
  · rw [if_pos h1]; decide
  · rw [if_neg h1]
    have h2 : x = y := by
      rw [Int64.lt_iff_toInt_lt] at h h1
      exact Int64.toInt_inj.mp (by omega)
    rw [if_pos h2]; decide
theorem own_eq_int {a : Array Value} {s : State} {t : Term} {k : Int32} (h : (Jvm.Cond.eq t (Term.int k)).value a s none s [] = some true) : t.eval a s none [] s = some (.int k) := by
  obtain ⟨x, y, hx, hy, k1, k2⟩ := cmp_v (Or.inl h)
  obtain rfl : y = .int k := Option.some.inj (hy.symm.trans (Term.int_eval k))
  obtain ⟨z, rfl⟩ := k2
  rw [hx, gotT (Cond.eq_ints hx hy) h]
end Own
section OwnArr
variable {p : Program} {l : Launch} {e : Env} {R : Room} {s : State} {m : MethodId} {args : Array Value} {below : List Frame} {meth : Method} {c : Code} {T : State} {locs : List Loc} {cells slots : Nat}
variable {Z : State} {a0 : Array Value} {h h' : Heap} {a b : Addr} {ty : FieldType} {n k : Nat} {f f' : Nat → Value} {v : Value} {sl : Nat} {j x : Int32} {ws : List Addr}
/-- an array of n components, the i-th of which is f i -/
def own_Ar (Z : State) (h : Heap) (a : Addr) (ty : FieldType) (n : Nat) (f : Nat → Value) : Prop := n < 2 ^ 31 ∧ ∃ cl : Cell, Arr Z h a cl ty ∧ cl.slots.size = n ∧ ∀ i, i < n → cl.slots[i]? = some (f i)
def own_up (f : Nat → Value) (k : Nat) (v : Value) : Nat → Value := fun i => if i = k then v else f i
theorem own_Ar.lt (F : own_Ar Z h a ty n f) : a < h.size := by obtain ⟨_, c, A, -⟩ := F; exact A.lt
theorem own_Ar.ext (F : own_Ar Z h a ty n f) (E : Ext h h') : own_Ar Z h' a ty n f := by obtain ⟨q, c, A, r⟩ := F; exact ⟨q, c, A.ext E, r⟩
theorem own_Ar.other (F : own_Ar Z h b ty n f) (W : Wr h h' a sl v) (q : b ≠ a) : own_Ar Z h' b ty n f := by obtain ⟨q', c, A, r⟩ := F; exact ⟨q', c, A.other W q, r⟩
theorem own_Ar.keep (F : own_Ar Z h a ty n f) (K : Keep h h' ws) (q : a ∉ ws) : own_Ar Z h' a ty n f := by obtain ⟨q', c, A, r⟩ := F; exact ⟨q', c, ⟨K.2.1 a c A.1 q, A.2⟩, r⟩
theorem own_Ar.congr (F : own_Ar Z h a ty n f) (q : ∀ i, i < n → f i = f' i) : own_Ar Z h a ty n f' := by obtain ⟨q', c, A, r, H⟩ := F; exact ⟨q', c, A, r, fun i hi => by rw [← q i hi]; exact H i hi⟩
theorem own_Ar.arv (F : own_Ar Z h a ty n f) {N : Int32} (hN : N.toInt = (n : Int)) {vs : List Value} {d : Value} (hv : ∀ i, i < n → f i = vs.getD i d) (hf : ∀ i, i < n → fits ty (vs.getD i d) = true) : ∃ k, Arv Z h a k ty N vs d := by
  obtain ⟨_, c, A, r, H⟩ := F
  have h1 : ¬ N < 0 := by rw [Int32.lt_iff_toInt_lt, show (0 : Int32).toInt = 0 from rfl]; omega
  have h2 := nat_of h1
  have h3 : c.slots.size = N.toNatClampNeg := by omega
  exact ⟨c.cls, c, A, rfl, h3, h1, fun i hi => by rw [H i (by omega), hv i (by omega)], fun i hi => hf i (by omega)⟩
theorem own_in (hj : j.toInt = (k : Int)) (hk : k < n) : ¬ (j < 0 ∨ n ≤ j.toNatClampNeg) ∧ j.toNatClampNeg = k := by
  have h1 : ¬ j < 0 := by rw [Int32.lt_iff_toInt_lt, show (0 : Int32).toInt = 0 from rfl]; omega
  have h2 := nat_of h1
  refine ⟨fun q => ?_, by omega⟩
  rcases q with q | q
  · exact h1 q
  · omega
theorem own_Ar.set (F : own_Ar Z h a ty n f) (W : Wr h h' a k v) (hk : k < n) : own_Ar Z h' a ty n (own_up f k v) := by
  obtain ⟨q, c, A, r, H⟩ := F
  obtain ⟨c', g1, g2, g3, g4, -, g6, g7⟩ := wr_at W A.1
  obtain ⟨g8, g9, -⟩ := g7 rfl
  refine ⟨q, c', ?_, by rw [g4, r], fun i hi => ?_⟩
  · rw [g8]; exact A.same W
  · unfold own_up
    by_cases hik : i = k
    · subst hik; rw [if_pos rfl]; exact g9
    · rw [if_neg hik, g6 i hik]; exact H i hi
theorem own_newP (X : Stand p l e R s m args below meth c T locs cells slots) (hx : p.tables.exec = Jvm.exec) (hZ : Z.Warmed39 s.vm) {aty : ArrayType} (w : (Jvm.Cond.arrayClass (newarray.typeOf aty)).before a0 Z = true) (eT : T.heap = h) {g : JFrame} (hg : g.method = m) (hd : decode c.code g.pc = .ok (.newarray aty, 2)) {rest : List Value} (hs : g.stack = .int j :: rest)
    (hj : j.toInt = (k : Int)) {cap : Nat} (hcap : k ≤ cap) (hb : cap * 8 ≤ 536870912) (hc : cells + 1 ≤ R.cells) (hl : slots + cap ≤ R.slots) :
    ∃ T' h', Stand p l e R s m args below meth c T' locs (cells + 1) (slots + cap) ∧ T'.heap = h' ∧ Ext h h' ∧ own_Ar Z h' h.size (newarray.typeOf aty) k (fun _ => defaultValue (newarray.typeOf aty)) ∧
      ∀ target, Steps p.tables e below (T'.setTop { g with pc := g.pc + 2, stack := .ref h.size :: rest }) target → Steps p.tables e below (T.setTop g) target := by
  have h1 : ¬ j < 0 := by rw [Int32.lt_iff_toInt_lt, show (0 : Int32).toInt = 0 from rfl]; omega
  have h2 : j.toNatClampNeg = k := by have := nat_of h1; omega
  obtain ⟨T', h', cA, X', e', E', A', st⟩ := newP X hx hZ w eT hg hd hs h1 (cap := cap) (by omega) hb hc hl
  refine ⟨T', h', X', e', E', ⟨by have := j.toInt_lt; omega, _, A', by rw [sz_new]; exact h2, fun i hi => ?_⟩, st⟩
  simp only [newA, h2, Array.getElem?_replicate, hi, if_true]
theorem own_stB (X : Stand p l e R s m args below meth c T locs cells slots) (hx : p.tables.exec = Jvm.exec) (hZ : Z.Warmed39 s.vm) (eT : T.heap = h) (A : own_Ar Z h a .byte n f) (hj : j.toInt = (k : Int)) (hk : k < n) {g : JFrame} (hg : g.method = m) {rest : List Value} (hs : g.stack = .int x :: .int j :: .ref a :: rest) (hd : decode c.code g.pc = .ok (.bastore, 1)) :
    ∃ T' h', Stand p l e R s m args below meth c T' (locs ++ [⟨a, k⟩]) cells slots ∧ T'.heap = h' ∧ Wr h h' a k (.int x.toInt8.toInt32) ∧ ∀ target, Steps p.tables e below (T'.setTop { g with pc := g.pc + 1, stack := rest }) target → Steps p.tables e below (T.setTop g) target := by
  obtain ⟨_, cl, Ar, q, _⟩ := A
  obtain ⟨T', h', X', e', W, st⟩ := stB X hx hZ eT Ar (j := j) (x := x) (by rw [q]; exact (own_in hj hk).1) hg hs hd
  rw [(own_in hj hk).2] at X' W
  exact ⟨T', h', X', e', W, st⟩
theorem own_stI (X : Stand p l e R s m args below meth c T locs cells slots) (hx : p.tables.exec = Jvm.exec) (hZ : Z.Warmed39 s.vm) (eT : T.heap = h) (A : own_Ar Z h a .int n f) (hj : j.toInt = (k : Int)) (hk : k < n) {g : JFrame} (hg : g.method = m) {rest : List Value} (hs : g.stack = .int x :: .int j :: .ref a :: rest) (hd : decode c.code g.pc = .ok (.iastore, 1)) :
    ∃ T' h', Stand p l e R s m args below meth c T' (locs ++ [⟨a, k⟩]) cells slots ∧ T'.heap = h' ∧ Wr h h' a k (.int x) ∧ ∀ target, Steps p.tables e below (T'.setTop { g with pc := g.pc + 1, stack := rest }) target → Steps p.tables e below (T.setTop g) target := by
  obtain ⟨_, cl, Ar, q, _⟩ := A
  obtain ⟨T', h', X', e', W, st⟩ := stI X hx hZ eT Ar (j := j) (x := x) (by rw [q]; exact (own_in hj hk).1) hg hs hd
  rw [(own_in hj hk).2] at X' W
  exact ⟨T', h', X', e', W, st⟩
theorem own_stJ {y : Int64} (X : Stand p l e R s m args below meth c T locs cells slots) (hx : p.tables.exec = Jvm.exec) (hZ : Z.Warmed39 s.vm) (eT : T.heap = h) (A : own_Ar Z h a .long n f) (hj : j.toInt = (k : Int)) (hk : k < n) {g : JFrame} (hg : g.method = m) {rest : List Value} (hs : g.stack = .long y :: .int j :: .ref a :: rest) (hd : decode c.code g.pc = .ok (.lastore, 1)) :
    ∃ T' h', Stand p l e R s m args below meth c T' (locs ++ [⟨a, k⟩]) cells slots ∧ T'.heap = h' ∧ Wr h h' a k (.long y) ∧ ∀ target, Steps p.tables e below (T'.setTop { g with pc := g.pc + 1, stack := rest }) target → Steps p.tables e below (T.setTop g) target := by
  obtain ⟨_, cl, Ar, q, _⟩ := A
  obtain ⟨T', h', X', e', W, st⟩ := stJ X hx hZ eT Ar (j := j) (x := y) (by rw [q]; exact (own_in hj hk).1) hg hs hd
  rw [(own_in hj hk).2] at X' W
  exact ⟨T', h', X', e', W, st⟩
theorem own_stC (X : Stand p l e R s m args below meth c T locs cells slots) (hx : p.tables.exec = Jvm.exec) (hZ : Z.Warmed39 s.vm) (eT : T.heap = h) (A : own_Ar Z h a .char n f) (hj : j.toInt = (k : Int)) (hk : k < n) {g : JFrame} (hg : g.method = m) {rest : List Value} (hs : g.stack = .int x :: .int j :: .ref a :: rest) (hd : decode c.code g.pc = .ok (.castore, 1)) :
    ∃ T' h', Stand p l e R s m args below meth c T' (locs ++ [⟨a, k⟩]) cells slots ∧ T'.heap = h' ∧ Wr h h' a k (.int x.toUInt32.toUInt16.toUInt32.toInt32) ∧ ∀ target, Steps p.tables e below (T'.setTop { g with pc := g.pc + 1, stack := rest }) target → Steps p.tables e below (T.setTop g) target := by
  obtain ⟨_, cl, Ar, q, _⟩ := A
  obtain ⟨T', h', X', e', W, st⟩ := stC X hx hZ eT Ar (j := j) (x := x) (by rw [q]; exact (own_in hj hk).1) hg hs hd
  rw [(own_in hj hk).2] at X' W
  exact ⟨T', h', X', e', W, st⟩
theorem own_ldI (X : Stand p l e R s m args below meth c T locs cells slots) (hx : p.tables.exec = Jvm.exec) (hZ : Z.Warmed39 s.vm) (eT : T.heap = h) (A : own_Ar Z h a .int n f) (hj : j.toInt = (k : Int)) (hk : k < n) (hv : f k = v) {g : JFrame} (hg : g.method = m) {rest : List Value} (hs : g.stack = .int j :: .ref a :: rest) (hd : decode c.code g.pc = .ok (.iaload, 1)) (target : State)
    (kt : Steps p.tables e below (T.setTop { g with pc := g.pc + 1, stack := v :: rest }) target) : Steps p.tables e below (T.setTop g) target := by
  obtain ⟨_, cl, Ar, q, H⟩ := A
  exact X.iaload hx (by rw [eT]; exact Ar.1) (State.isArrayOf_alike hZ.alike Ar.2.1) Ar.2.2 (by rw [q]; exact (own_in hj hk).1) (by rw [(own_in hj hk).2, ← hv]; exact H k hk) hg hs hd target kt
theorem own_ldJ (X : Stand p l e R s m args below meth c T locs cells slots) (hx : p.tables.exec = Jvm.exec) (hZ : Z.Warmed39 s.vm) (eT : T.heap = h) (A : own_Ar Z h a .long n f) (hj : j.toInt = (k : Int)) (hk : k < n) (hv : f k = v) {g : JFrame} (hg : g.method = m) {rest : List Value} (hs : g.stack = .int j :: .ref a :: rest) (hd : decode c.code g.pc = .ok (.laload, 1)) (target : State)
    (kt : Steps p.tables e below (T.setTop { g with pc := g.pc + 1, stack := v :: rest }) target) : Steps p.tables e below (T.setTop g) target := by
  obtain ⟨_, cl, Ar, q, H⟩ := A
  exact X.laload hx (by rw [eT]; exact Ar.1) (State.isArrayOf_alike hZ.alike Ar.2.1) Ar.2.2 (by rw [q]; exact (own_in hj hk).1) (by rw [(own_in hj hk).2, ← hv]; exact H k hk) hg hs hd target kt
theorem own_ldB (X : Stand p l e R s m args below meth c T locs cells slots) (hx : p.tables.exec = Jvm.exec) (hZ : Z.Warmed39 s.vm) (eT : T.heap = h) (A : own_Ar Z h a .byte n f) (hj : j.toInt = (k : Int)) (hk : k < n) (hv : f k = v) {g : JFrame} (hg : g.method = m) {rest : List Value} (hs : g.stack = .int j :: .ref a :: rest) (hd : decode c.code g.pc = .ok (.baload, 1)) (target : State)
    (kt : Steps p.tables e below (T.setTop { g with pc := g.pc + 1, stack := v :: rest }) target) : Steps p.tables e below (T.setTop g) target := by
  obtain ⟨_, cl, Ar, q, H⟩ := A
  exact X.baloadBytes hx (by rw [eT]; exact Ar.1) (State.isArrayOf_alike hZ.alike Ar.2.1) Ar.2.2 (by rw [q]; exact (own_in hj hk).1) (by rw [(own_in hj hk).2, ← hv]; exact H k hk) hg hs hd target kt
theorem own_ldC (X : Stand p l e R s m args below meth c T locs cells slots) (hx : p.tables.exec = Jvm.exec) (hZ : Z.Warmed39 s.vm) (eT : T.heap = h) (A : own_Ar Z h a .char n f) (hj : j.toInt = (k : Int)) (hk : k < n) (hv : f k = v) {g : JFrame} (hg : g.method = m) {rest : List Value} (hs : g.stack = .int j :: .ref a :: rest) (hd : decode c.code g.pc = .ok (.caload, 1)) (target : State)
    (kt : Steps p.tables e below (T.setTop { g with pc := g.pc + 1, stack := v :: rest }) target) : Steps p.tables e below (T.setTop g) target := by
  obtain ⟨_, cl, Ar, q, H⟩ := A
  exact X.caload hx (by rw [eT]; exact Ar.1) (State.isArrayOf_alike hZ.alike Ar.2.1) Ar.2.2 (by rw [q]; exact (own_in hj hk).1) (by rw [(own_in hj hk).2, ← hv]; exact H k hk) hg hs hd target kt
theorem own_len (X : Stand p l e R s m args below meth c T locs cells slots) (hx : p.tables.exec = Jvm.exec) (hZ : Z.Warmed39 s.vm) (eT : T.heap = h) (A : own_Ar Z h a ty n f) {g : JFrame} (hg : g.method = m) {rest : List Value} (hs : g.stack = .ref a :: rest) (hd : decode c.code g.pc = .ok (.arraylength, 1)) (target : State)
    (kt : Steps p.tables e below (T.setTop { g with pc := g.pc + 1, stack := .int n.toInt32 :: rest }) target) : Steps p.tables e below (T.setTop g) target := by
  obtain ⟨_, cl, Ar, q, H⟩ := A
  exact X.arraylength hx (by rw [eT]; exact Ar.1) (State.isArrayOf_alike hZ.alike Ar.2.1) hg hs hd target (by rw [q]; exact kt)
end OwnArr



def own_c (y : Int32) : Int32 := (y &&& (255 : Int32)).toUInt32.toUInt16.toUInt32.toInt32
theorem own_c_eq (y : Int32) : own_c y = y &&& 255 := i2c_mask y
theorem own_c_int (y : Int32) : (own_c y).toInt = y.toInt % 256 := by
  rw [own_c_eq, Jvm.Kit.i32_mask y 255 (k := 8) (by decide) (by decide)]; rfl
theorem own_c_in (y : Int32) : ¬ own_c y < 0 ∧ ¬ (255 : Int32) < own_c y := by
  have h := own_c_int y
  constructor
  · rw [Int32.lt_iff_toInt_lt, h, show (0 : Int32).toInt = 0 from rfl]; omega
  · rw [Int32.lt_iff_toInt_lt, h, show (255 : Int32).toInt = 255 from rfl]; omega
theorem own_c_idem (y : Int32) : (own_c y).toUInt32.toUInt16.toUInt32.toInt32 = own_c y := by
  have e : own_c y = y &&& 255 := own_c_eq y
  rw [e]; exact i2c_mask y
theorem own_c_fits (y : Int32) : fits .char (.int (own_c y)) = true := by rw [← own_c_idem y]; exact fits_nar_char _
theorem own_wide (cs : List Int32) (h : ∀ c ∈ cs, ¬ c < 0 ∧ ¬ (255 : Int32) < c) : ∀ c ∈ cs, ¬ c < 0 ∧ ¬ (65535 : Int32) < c := fun c hc => ⟨(h c hc).1, fun q => (h c hc).2 (by rw [Int32.lt_iff_toInt_lt] at q ⊢; rw [show (65535 : Int32).toInt = 65535 from rfl] at q; rw [show (255 : Int32).toInt = 255 from rfl]; omega)⟩
theorem own_hws : ∀ d ∈ StrChars.Road.words, d ∈ tables_1 := by decide +kernel

theorem own_d2_0 : decode jdk_30_method_1_code 0 = .ok (.aload_n 0, 1) := by decide +kernel
theorem own_d2_1 : decode jdk_30_method_1_code 1 = .ok (.invokespecial 1, 3) := by decide +kernel
theorem own_d2_4 : decode jdk_30_method_1_code 4 = .ok (.return_, 1) := by decide +kernel
theorem own_pn_Record : plainName "java/lang/Record" = true := by first | (simp [plainName, overriddenIn]; done) | decide +kernel
theorem own_ef2 (m : MethodId) (x0 : Addr) : entryFrame m #[(.ref x0)] 1 = mkF m 0 #[.val (.ref x0)] [] := by first | (simp [entryFrame, mkF, argsToLocals, Value.category, maxLocals]; done) | rfl
theorem own_pd0 : parseMethodDescriptor "()V" = some ⟨[], none⟩ := by decide +kernel
set_option maxRecDepth 65536 in
set_option maxHeartbeats 40000000 in
theorem own_rm_recinit (l : Launch) (Z : State) (a0 : Array Value) (hw : ∀ d ∈ tables_1, d.before a0 Z = true) (r0 : Addr) (h0 : Heap) : own_Con l Z [] (⟨"java/lang/Record", "<init>", "()V"⟩ : MethodName) jdk_30_method_1_code 1 none ({ frames := 1, cells := 0, slots := 0, locals := 12 } : Room) #[(.ref r0)] h0 (own_Q1 (none) h0) := by
  refine own_body (plainFor_of_name own_pn_Record) ?_
  intro p e s m below meth c s₁ X0 hx hby hml hret hlk hown hnm hZ e0
  refine oS (u' := s₁.setTop (mkF m 0 #[.val (.ref r0)] [])) (fun _ kst => castTop (own_ef2 m r0) kst) ?_
  refine oS (u' := s₁.setTop (mkF m 1 #[.val (.ref r0)] [(.ref r0)])) (fun _ kst => XS.aloadN X0.here hx rfl (hb hby own_d2_0) rfl rfl kst) ?_
  obtain ⟨T1, X1, e1, st1⟩ := initO X0 hx hZ hown (hw _ (List.mem_of_getElem? (i := 61) rfl)) (hw _ (List.mem_of_getElem? (i := 15) rfl)) (hw _ (List.mem_of_getElem? (i := 16) rfl)) e0 (g := (mkF m 1 #[.val (.ref r0)] [(.ref r0)])) rfl (by rw [hml]; rfl) rfl (hb hby own_d2_1) (by decide) (W := 0) (by show 2 * 0 + _ ≤ _; exact Nat.le_of_eq rfl) (by decide)
  refine oS (u' := T1.setTop (mkF m 4 #[.val (.ref r0)] [])) st1 ?_
  refine own_ret0 X1 hx hlk hret (hb hby own_d2_4) ?_ (by decide) (by decide)
  exact ⟨rfl, e1, rfl⟩
theorem own_d1_0 : decode prog_31_method_1_code 0 = .ok (.aload_n 0, 1) := by decide +kernel
theorem own_d1_1 : decode prog_31_method_1_code 1 = .ok (.invokespecial 1, 3) := by decide +kernel
theorem own_d1_4 : decode prog_31_method_1_code 4 = .ok (.aload_n 0, 1) := by decide +kernel
theorem own_d1_5 : decode prog_31_method_1_code 5 = .ok (.iload_n 1, 1) := by decide +kernel
theorem own_d1_6 : decode prog_31_method_1_code 6 = .ok (.putfield 7, 3) := by decide +kernel
theorem own_d1_9 : decode prog_31_method_1_code 9 = .ok (.aload_n 0, 1) := by decide +kernel
theorem own_d1_10 : decode prog_31_method_1_code 10 = .ok (.iload_n 2, 1) := by decide +kernel
theorem own_d1_11 : decode prog_31_method_1_code 11 = .ok (.putfield 13, 3) := by decide +kernel
theorem own_d1_14 : decode prog_31_method_1_code 14 = .ok (.return_, 1) := by decide +kernel
theorem own_pn_Position : plainName "com/example/demitasse/demitasse/source/Position" = true := by first | (simp [plainName, overriddenIn]; done) | decide +kernel
theorem own_ef1 (m : MethodId) (x0 : Addr) (x1 : Int32) (x2 : Int32) : entryFrame m #[(.ref x0), (.int x1), (.int x2)] 3 = mkF m 0 #[.val (.ref x0), .val (.int x1), .val (.int x2)] [] := by first | (simp [entryFrame, mkF, argsToLocals, Value.category, maxLocals]; done) | rfl
set_option maxRecDepth 65536 in
set_option maxHeartbeats 40000000 in
theorem own_rm_posinit (l : Launch) (Z : State) (a0 : Array Value) (hw : ∀ d ∈ tables_1, d.before a0 Z = true) (r0 : Addr) (p1 : Int32) (p2 : Int32) (h0 : Heap) (n0 : Nat) (Z0 : n0 ≤ h0.size) (E0 : Exa Z h0 r0 "com/example/demitasse/demitasse/source/Position") (F1 : Fld Z h0 r0 "com/example/demitasse/demitasse/source/Position" "line" "I" (.int (0 : Int32))) (F2 : Fld Z h0 r0 "com/example/demitasse/demitasse/source/Position" "column" "I" (.int (0 : Int32))) (g0 : n0 ≤ r0) : own_Con l Z [] (⟨"com/example/demitasse/demitasse/source/Position", "<init>", "(II)V"⟩ : MethodName) prog_31_method_1_code 3 none ({ frames := 2, cells := 0, slots := 0, locals := 24 } : Room) #[(.ref r0), (.int p1), (.int p2)] h0 (fun v h L => v = none ∧ Fr n0 L ∧ Keep h0 h [r0] ∧ Fld Z h r0 "com/example/demitasse/demitasse/source/Position" "line" "I" (.int p1) ∧ Fld Z h r0 "com/example/demitasse/demitasse/source/Position" "column" "I" (.int p2)) := by
  refine own_body (plainFor_of_name own_pn_Position) ?_
  intro p e s m below meth c s₁ X0 hx hby hml hret hlk hown hnm hZ e0
  have N0 := Fr.nil n0
  have K0 : Keep h0 h0 [r0] := Keep.refl _ _
  refine oS (u' := s₁.setTop (mkF m 0 #[.val (.ref r0), .val (.int p1), .val (.int p2)] [])) (fun _ kst => castTop (own_ef1 m r0 p1 p2) kst) ?_
  refine oS (u' := s₁.setTop (mkF m 1 #[.val (.ref r0), .val (.int p1), .val (.int p2)] [(.ref r0)])) (fun _ kst => XS.aloadN X0.here hx rfl (hb hby own_d1_0) rfl rfl kst) ?_
  obtain ⟨T2, X2, e2, st2⟩ := own_callIP X0 hx hZ (y := (⟨"java/lang/Record", "<init>", "()V"⟩ : MethodName)) rfl hown (hw _ (List.mem_of_getElem? (i := 56) rfl)) (hw _ (List.mem_of_getElem? (i := 57) rfl)) (hw _ (List.mem_of_getElem? (i := 60) rfl)) (hw _ (List.mem_of_getElem? (i := 59) rfl)) (by decide) e0 (W := 0) (own_rm_recinit l Z a0 hw r0 h0) (by decide) (by decide) (g := (mkF m 1 #[.val (.ref r0), .val (.int p1), .val (.int p2)] [(.ref r0)])) rfl (by rw [hml]; rfl) (a := r0) (argsL := []) (rest := []) (lenOf own_pd0 rfl) rfl (by show 2 * 0 + _ ≤ _; exact Nat.le_of_eq rfl) (hb hby own_d1_1) (by decide) (by decide)
  refine oS (u' := T2.setTop (mkF m 4 #[.val (.ref r0), .val (.int p1), .val (.int p2)] [])) st2 ?_
  refine oS (u' := T2.setTop (mkF m 5 #[.val (.ref r0), .val (.int p1), .val (.int p2)] [(.ref r0)])) (fun _ kst => XS.aloadN X2.here hx rfl (hb hby own_d1_4) rfl rfl kst) ?_
  refine oS (u' := T2.setTop (mkF m 6 #[.val (.ref r0), .val (.int p1), .val (.int p2)] [(.int p1), (.ref r0)])) (fun _ kst => XS.iloadN X2.here hx rfl (hb hby own_d1_5) rfl kst) ?_
  obtain ⟨T3, h3, X3, e3, W3, st3⟩ := putF X2 hx hZ hown (host := "") (Or.inl (hw _ (List.mem_of_getElem? (i := 62) rfl))) Via.refl e2 F1 E0 (Or.inr ⟨(hw _ (List.mem_of_getElem? (i := 63) rfl)), rfl, hnm⟩) (hw _ (List.mem_of_getElem? (i := 51) rfl)) (ty := .int) (by decide) rfl rfl (g := (mkF m 6 #[.val (.ref r0), .val (.int p1), .val (.int p2)] [(.int p1), (.ref r0)])) rfl rfl (hb hby own_d1_6)
  have f3_E_r0 := E0.wr W3
  have f3_F_r0_line := F1.same W3
  have f3_F_r0_column := F2.other W3 (Or.inr (slot_ne (Or.inr (hw _ (List.mem_of_getElem? (i := 65) rfl))) (Or.inr (hw _ (List.mem_of_getElem? (i := 63) rfl))) (by decide) (t := .int) (t' := .int) (by decide) (by decide)))
  have K3 := K0.wr W3 (Or.inl (List.mem_of_getElem? (i := 0) rfl))
  have Z3 := Nat.le_trans Z0 (Keep.of_wr W3).1
  have N3 := Fr.snoc X3 N0 g0
  refine oS (u' := T3.setTop (mkF m 9 #[.val (.ref r0), .val (.int p1), .val (.int p2)] [])) st3 ?_
  refine oS (u' := T3.setTop (mkF m 10 #[.val (.ref r0), .val (.int p1), .val (.int p2)] [(.ref r0)])) (fun _ kst => XS.aloadN X3.here hx rfl (hb hby own_d1_9) rfl rfl kst) ?_
  refine oS (u' := T3.setTop (mkF m 11 #[.val (.ref r0), .val (.int p1), .val (.int p2)] [(.int p2), (.ref r0)])) (fun _ kst => XS.iloadN X3.here hx rfl (hb hby own_d1_10) rfl kst) ?_
  obtain ⟨T4, h4, X4, e4, W4, st4⟩ := putF X3 hx hZ hown (host := "") (Or.inl (hw _ (List.mem_of_getElem? (i := 64) rfl))) Via.refl e3 f3_F_r0_column f3_E_r0 (Or.inr ⟨(hw _ (List.mem_of_getElem? (i := 65) rfl)), rfl, hnm⟩) (hw _ (List.mem_of_getElem? (i := 51) rfl)) (ty := .int) (by decide) rfl rfl (g := (mkF m 11 #[.val (.ref r0), .val (.int p1), .val (.int p2)] [(.int p2), (.ref r0)])) rfl rfl (hb hby own_d1_11)
  have f4_E_r0 := f3_E_r0.wr W4
  have f4_F_r0_line := f3_F_r0_line.other W4 (Or.inr (slot_ne (Or.inr (hw _ (List.mem_of_getElem? (i := 63) rfl))) (Or.inr (hw _ (List.mem_of_getElem? (i := 65) rfl))) (by decide) (t := .int) (t' := .int) (by decide) (by decide)))
  have f4_F_r0_column := f3_F_r0_column.same W4
  have K4 := K3.wr W4 (Or.inl (List.mem_of_getElem? (i := 0) rfl))
  have Z4 := Nat.le_trans Z3 (Keep.of_wr W4).1
  have N4 := Fr.snoc X4 N3 g0
  refine oS (u' := T4.setTop (mkF m 14 #[.val (.ref r0), .val (.int p1), .val (.int p2)] [])) st4 ?_
  refine own_ret0 X4 hx hlk hret (hb hby own_d1_14) ?_ (by decide) (by decide)
  show _ ∧ _
  rw [e4]
  exact ⟨rfl, N4, K4, f4_F_r0_line, f4_F_r0_column⟩
theorem own_d3_0 : decode prog_26_method_1_code 0 = .ok (.aload_n 0, 1) := by decide +kernel
theorem own_d3_1 : decode prog_26_method_1_code 1 = .ok (.invokespecial 1, 3) := by decide +kernel
theorem own_d3_4 : decode prog_26_method_1_code 4 = .ok (.aload_n 0, 1) := by decide +kernel
theorem own_d3_5 : decode prog_26_method_1_code 5 = .ok (.aload_n 1, 1) := by decide +kernel
theorem own_d3_6 : decode prog_26_method_1_code 6 = .ok (.putfield 7, 3) := by decide +kernel
theorem own_d3_9 : decode prog_26_method_1_code 9 = .ok (.aload_n 0, 1) := by decide +kernel
theorem own_d3_10 : decode prog_26_method_1_code 10 = .ok (.aload_n 2, 1) := by decide +kernel
theorem own_d3_11 : decode prog_26_method_1_code 11 = .ok (.putfield 13, 3) := by decide +kernel
theorem own_d3_14 : decode prog_26_method_1_code 14 = .ok (.aload_n 0, 1) := by decide +kernel
theorem own_d3_15 : decode prog_26_method_1_code 15 = .ok (.aload_n 3, 1) := by decide +kernel
theorem own_d3_16 : decode prog_26_method_1_code 16 = .ok (.putfield 17, 3) := by decide +kernel
theorem own_d3_19 : decode prog_26_method_1_code 19 = .ok (.return_, 1) := by decide +kernel
theorem own_pn_Diagnostic : plainName "com/example/demitasse/demitasse/source/Diagnostic" = true := by first | (simp [plainName, overriddenIn]; done) | decide +kernel
theorem own_ef3 (m : MethodId) (x0 : Addr) (x1 : Addr) (x2 : Addr) (x3 : Addr) : entryFrame m #[(.ref x0), (.ref x1), (.ref x2), (.ref x3)] 4 = mkF m 0 #[.val (.ref x0), .val (.ref x1), .val (.ref x2), .val (.ref x3)] [] := by first | (simp [entryFrame, mkF, argsToLocals, Value.category, maxLocals]; done) | rfl
set_option maxRecDepth 65536 in
set_option maxHeartbeats 40000000 in
theorem own_rm_dinit (l : Launch) (Z : State) (a0 : Array Value) (hw : ∀ d ∈ tables_1, d.before a0 Z = true) (r0 : Addr) (a1 : Addr) (a2 : Addr) (a3 : Addr) (h0 : Heap) (n0 : Nat) (Z0 : n0 ≤ h0.size) (E0 : Exa Z h0 r0 "com/example/demitasse/demitasse/source/Diagnostic") (F_kind : Fld Z h0 r0 "com/example/demitasse/demitasse/source/Diagnostic" "kind" "Lcom/example/demitasse/demitasse/source/Diagnostic$Kind;" .null) (F_position : Fld Z h0 r0 "com/example/demitasse/demitasse/source/Diagnostic" "position" "Lcom/example/demitasse/demitasse/source/Position;" .null) (F_message : Fld Z h0 r0 "com/example/demitasse/demitasse/source/Diagnostic" "message" "Ljava/lang/String;" .null) (g0 : n0 ≤ r0) : own_Con l Z [] (⟨"com/example/demitasse/demitasse/source/Diagnostic", "<init>", "(Lcom/example/demitasse/demitasse/source/Diagnostic$Kind;Lcom/example/demitasse/demitasse/source/Position;Ljava/lang/String;)V"⟩ : MethodName) prog_26_method_1_code 4 none ({ frames := 2, cells := 0, slots := 0, locals := 24 } : Room) #[(.ref r0), (.ref a1), (.ref a2), (.ref a3)] h0 (fun v h L => v = none ∧ Fr n0 L ∧ Keep h0 h [r0] ∧ Fld Z h r0 "com/example/demitasse/demitasse/source/Diagnostic" "kind" "Lcom/example/demitasse/demitasse/source/Diagnostic$Kind;" (.ref a1) ∧ Fld Z h r0 "com/example/demitasse/demitasse/source/Diagnostic" "position" "Lcom/example/demitasse/demitasse/source/Position;" (.ref a2) ∧ Fld Z h r0 "com/example/demitasse/demitasse/source/Diagnostic" "message" "Ljava/lang/String;" (.ref a3)) := by
  refine own_body (plainFor_of_name own_pn_Diagnostic) ?_
  intro p e s m below meth c s₁ X0 hx hby hml hret hlk hown hnm hZ e0
  have N0 := Fr.nil n0
  have K0 : Keep h0 h0 [r0] := Keep.refl _ _
  refine oS (u' := s₁.setTop (mkF m 0 #[.val (.ref r0), .val (.ref a1), .val (.ref a2), .val (.ref a3)] [])) (fun _ kst => castTop (own_ef3 m r0 a1 a2 a3) kst) ?_
  refine oS (u' := s₁.setTop (mkF m 1 #[.val (.ref r0), .val (.ref a1), .val (.ref a2), .val (.ref a3)] [(.ref r0)])) (fun _ kst => XS.aloadN X0.here hx rfl (hb hby own_d3_0) rfl rfl kst) ?_
  obtain ⟨T5, X5, e5, st5⟩ := own_callIP X0 hx hZ (y := (⟨"java/lang/Record", "<init>", "()V"⟩ : MethodName)) rfl hown (hw _ (List.mem_of_getElem? (i := 69) rfl)) (hw _ (List.mem_of_getElem? (i := 57) rfl)) (hw _ (List.mem_of_getElem? (i := 60) rfl)) (hw _ (List.mem_of_getElem? (i := 59) rfl)) (by decide) e0 (W := 0) (own_rm_recinit l Z a0 hw r0 h0) (by decide) (by decide) (g := (mkF m 1 #[.val (.ref r0), .val (.ref a1), .val (.ref a2), .val (.ref a3)] [(.ref r0)])) rfl (by rw [hml]; rfl) (a := r0) (argsL := []) (rest := []) (lenOf own_pd0 rfl) rfl (by show 2 * 0 + _ ≤ _; exact Nat.le_of_eq rfl) (hb hby own_d3_1) (by decide) (by decide)
  refine oS (u' := T5.setTop (mkF m 4 #[.val (.ref r0), .val (.ref a1), .val (.ref a2), .val (.ref a3)] [])) st5 ?_
  refine oS (u' := T5.setTop (mkF m 5 #[.val (.ref r0), .val (.ref a1), .val (.ref a2), .val (.ref a3)] [(.ref r0)])) (fun _ kst => XS.aloadN X5.here hx rfl (hb hby own_d3_4) rfl rfl kst) ?_
  refine oS (u' := T5.setTop (mkF m 6 #[.val (.ref r0), .val (.ref a1), .val (.ref a2), .val (.ref a3)] [(.ref a1), (.ref r0)])) (fun _ kst => XS.aloadN X5.here hx rfl (hb hby own_d3_5) rfl rfl kst) ?_
  obtain ⟨T6, h6, X6, e6, W6, st6⟩ := putF X5 hx hZ hown (host := "") (Or.inl (hw _ (List.mem_of_getElem? (i := 70) rfl))) Via.refl e5 F_kind E0 (Or.inr ⟨(hw _ (List.mem_of_getElem? (i := 71) rfl)), rfl, hnm⟩) (hw _ (List.mem_of_getElem? (i := 48) rfl)) (ty := (.object "com/example/demitasse/demitasse/source/Diagnostic$Kind")) (by decide) rfl rfl (g := (mkF m 6 #[.val (.ref r0), .val (.ref a1), .val (.ref a2), .val (.ref a3)] [(.ref a1), (.ref r0)])) rfl rfl (hb hby own_d3_6)
  have f6_E_r0 := E0.wr W6
  have f6_F_r0_kind := F_kind.same W6
  have f6_F_r0_position := F_position.other W6 (Or.inr (slot_ne (Or.inr (hw _ (List.mem_of_getElem? (i := 73) rfl))) (Or.inr (hw _ (List.mem_of_getElem? (i := 71) rfl))) (by decide) (t := (.object "com/example/demitasse/demitasse/source/Position")) (t' := (.object "com/example/demitasse/demitasse/source/Diagnostic$Kind")) (by decide) (by decide)))
  have f6_F_r0_message := F_message.other W6 (Or.inr (slot_ne (Or.inr (hw _ (List.mem_of_getElem? (i := 75) rfl))) (Or.inr (hw _ (List.mem_of_getElem? (i := 71) rfl))) (by decide) (t := (.object "java/lang/String")) (t' := (.object "com/example/demitasse/demitasse/source/Diagnostic$Kind")) (by decide) (by decide)))
  have K6 := K0.wr W6 (Or.inl (List.mem_of_getElem? (i := 0) rfl))
  have Z6 := Nat.le_trans Z0 (Keep.of_wr W6).1
  have N6 := Fr.snoc X6 N0 g0
  refine oS (u' := T6.setTop (mkF m 9 #[.val (.ref r0), .val (.ref a1), .val (.ref a2), .val (.ref a3)] [])) st6 ?_
  refine oS (u' := T6.setTop (mkF m 10 #[.val (.ref r0), .val (.ref a1), .val (.ref a2), .val (.ref a3)] [(.ref r0)])) (fun _ kst => XS.aloadN X6.here hx rfl (hb hby own_d3_9) rfl rfl kst) ?_
  refine oS (u' := T6.setTop (mkF m 11 #[.val (.ref r0), .val (.ref a1), .val (.ref a2), .val (.ref a3)] [(.ref a2), (.ref r0)])) (fun _ kst => XS.aloadN X6.here hx rfl (hb hby own_d3_10) rfl rfl kst) ?_
  obtain ⟨T7, h7, X7, e7, W7, st7⟩ := putF X6 hx hZ hown (host := "") (Or.inl (hw _ (List.mem_of_getElem? (i := 72) rfl))) Via.refl e6 f6_F_r0_position f6_E_r0 (Or.inr ⟨(hw _ (List.mem_of_getElem? (i := 73) rfl)), rfl, hnm⟩) (hw _ (List.mem_of_getElem? (i := 48) rfl)) (ty := (.object "com/example/demitasse/demitasse/source/Position")) (by decide) rfl rfl (g := (mkF m 11 #[.val (.ref r0), .val (.ref a1), .val (.ref a2), .val (.ref a3)] [(.ref a2), (.ref r0)])) rfl rfl (hb hby own_d3_11)
  have f7_E_r0 := f6_E_r0.wr W7
  have f7_F_r0_kind := f6_F_r0_kind.other W7 (Or.inr (slot_ne (Or.inr (hw _ (List.mem_of_getElem? (i := 71) rfl))) (Or.inr (hw _ (List.mem_of_getElem? (i := 73) rfl))) (by decide) (t := (.object "com/example/demitasse/demitasse/source/Diagnostic$Kind")) (t' := (.object "com/example/demitasse/demitasse/source/Position")) (by decide) (by decide)))
  have f7_F_r0_position := f6_F_r0_position.same W7
  have f7_F_r0_message := f6_F_r0_message.other W7 (Or.inr (slot_ne (Or.inr (hw _ (List.mem_of_getElem? (i := 75) rfl))) (Or.inr (hw _ (List.mem_of_getElem? (i := 73) rfl))) (by decide) (t := (.object "java/lang/String")) (t' := (.object "com/example/demitasse/demitasse/source/Position")) (by decide) (by decide)))
  have K7 := K6.wr W7 (Or.inl (List.mem_of_getElem? (i := 0) rfl))
  have Z7 := Nat.le_trans Z6 (Keep.of_wr W7).1
  have N7 := Fr.snoc X7 N6 g0
  refine oS (u' := T7.setTop (mkF m 14 #[.val (.ref r0), .val (.ref a1), .val (.ref a2), .val (.ref a3)] [])) st7 ?_
  refine oS (u' := T7.setTop (mkF m 15 #[.val (.ref r0), .val (.ref a1), .val (.ref a2), .val (.ref a3)] [(.ref r0)])) (fun _ kst => XS.aloadN X7.here hx rfl (hb hby own_d3_14) rfl rfl kst) ?_
  refine oS (u' := T7.setTop (mkF m 16 #[.val (.ref r0), .val (.ref a1), .val (.ref a2), .val (.ref a3)] [(.ref a3), (.ref r0)])) (fun _ kst => XS.aloadN X7.here hx rfl (hb hby own_d3_15) rfl rfl kst) ?_
  obtain ⟨T8, h8, X8, e8, W8, st8⟩ := putF X7 hx hZ hown (host := "") (Or.inl (hw _ (List.mem_of_getElem? (i := 74) rfl))) Via.refl e7 f7_F_r0_message f7_E_r0 (Or.inr ⟨(hw _ (List.mem_of_getElem? (i := 75) rfl)), rfl, hnm⟩) (hw _ (List.mem_of_getElem? (i := 48) rfl)) (ty := (.object "java/lang/String")) (by decide) rfl rfl (g := (mkF m 16 #[.val (.ref r0), .val (.ref a1), .val (.ref a2), .val (.ref a3)] [(.ref a3), (.ref r0)])) rfl rfl (hb hby own_d3_16)
  have f8_E_r0 := f7_E_r0.wr W8
  have f8_F_r0_kind := f7_F_r0_kind.other W8 (Or.inr (slot_ne (Or.inr (hw _ (List.mem_of_getElem? (i := 71) rfl))) (Or.inr (hw _ (List.mem_of_getElem? (i := 75) rfl))) (by decide) (t := (.object "com/example/demitasse/demitasse/source/Diagnostic$Kind")) (t' := (.object "java/lang/String")) (by decide) (by decide)))
  have f8_F_r0_position := f7_F_r0_position.other W8 (Or.inr (slot_ne (Or.inr (hw _ (List.mem_of_getElem? (i := 73) rfl))) (Or.inr (hw _ (List.mem_of_getElem? (i := 75) rfl))) (by decide) (t := (.object "com/example/demitasse/demitasse/source/Position")) (t' := (.object "java/lang/String")) (by decide) (by decide)))
  have f8_F_r0_message := f7_F_r0_message.same W8
  have K8 := K7.wr W8 (Or.inl (List.mem_of_getElem? (i := 0) rfl))
  have Z8 := Nat.le_trans Z7 (Keep.of_wr W8).1
  have N8 := Fr.snoc X8 N7 g0
  refine oS (u' := T8.setTop (mkF m 19 #[.val (.ref r0), .val (.ref a1), .val (.ref a2), .val (.ref a3)] [])) st8 ?_
  refine own_ret0 X8 hx hlk hret (hb hby own_d3_19) ?_ (by decide) (by decide)
  show _ ∧ _
  rw [e8]
  exact ⟨rfl, N8, K8, f8_F_r0_kind, f8_F_r0_position, f8_F_r0_message⟩
theorem own_d6_0 : decode jdk_33_method_40_code 0 = .ok (.iload_n 0, 1) := by decide +kernel
theorem own_d6_1 : decode jdk_33_method_40_code 1 = .ok (.iload_n 1, 1) := by decide +kernel
theorem own_d6_2 : decode jdk_33_method_40_code 2 = .ok (.if_icmp .ge 7, 3) := by decide +kernel
theorem own_d6_5 : decode jdk_33_method_40_code 5 = .ok (.iconst (-1), 1) := by decide +kernel
theorem own_d6_6 : decode jdk_33_method_40_code 6 = .ok (.goto 13, 3) := by decide +kernel
theorem own_d6_9 : decode jdk_33_method_40_code 9 = .ok (.iload_n 0, 1) := by decide +kernel
theorem own_d6_10 : decode jdk_33_method_40_code 10 = .ok (.iload_n 1, 1) := by decide +kernel
theorem own_d6_11 : decode jdk_33_method_40_code 11 = .ok (.if_icmp .ne 7, 3) := by decide +kernel
theorem own_d6_14 : decode jdk_33_method_40_code 14 = .ok (.iconst 0, 1) := by decide +kernel
theorem own_d6_15 : decode jdk_33_method_40_code 15 = .ok (.goto 4, 3) := by decide +kernel
theorem own_d6_18 : decode jdk_33_method_40_code 18 = .ok (.iconst 1, 1) := by decide +kernel
theorem own_d6_19 : decode jdk_33_method_40_code 19 = .ok (.ireturn, 1) := by decide +kernel
theorem own_pn_Integer : plainName "java/lang/Integer" = true := by first | (simp [plainName, overriddenIn]; done) | decide +kernel
theorem own_ef6 (m : MethodId) (x0 : Int32) (x1 : Int32) : entryFrame m #[(.int x0), (.int x1)] 2 = mkF m 0 #[.val (.int x0), .val (.int x1)] [] := by first | (simp [entryFrame, mkF, argsToLocals, Value.category, maxLocals]; done) | rfl
def own_icmp (p1 : Int32) (p2 : Int32) : Int32 := (if p1 < p2 then (-1 : Int32) else (if p1 = p2 then (0 : Int32) else (1 : Int32)))
set_option maxRecDepth 65536 in
set_option maxHeartbeats 40000000 in
theorem own_rm_icmp (l : Launch) (Z : State) (a0 : Array Value) (hw : ∀ d ∈ tables_1, d.before a0 Z = true) (p1 : Int32) (p2 : Int32) (h0 : Heap) : own_Con l Z [] (⟨"java/lang/Integer", "compare", "(II)I"⟩ : MethodName) jdk_33_method_40_code 2 (some .int) ({ frames := 0, cells := 0, slots := 0, locals := 0 } : Room) #[(.int p1), (.int p2)] h0 (own_Q1 (some (.int (own_icmp p1 p2))) h0) := by
  refine own_body (plainFor_of_name own_pn_Integer) ?_
  intro p e s m below meth c s₁ X0 hx hby hml hret hlk hown hnm hZ e0
  refine oS (u' := s₁.setTop (mkF m 0 #[.val (.int p1), .val (.int p2)] [])) (fun _ kst => castTop (own_ef6 m p1 p2) kst) ?_
  refine oS (u' := s₁.setTop (mkF m 1 #[.val (.int p1), .val (.int p2)] [(.int p1)])) (fun _ kst => XS.iloadN X0.here hx rfl (hb hby own_d6_0) rfl kst) ?_
  refine oS (u' := s₁.setTop (mkF m 2 #[.val (.int p1), .val (.int p2)] [(.int p2), (.int p1)])) (fun _ kst => XS.iloadN X0.here hx rfl (hb hby own_d6_1) rfl kst) ?_
  by_cases hc9 : p1 < p2
  · refine oS (u' := s₁.setTop (mkF m 5 #[.val (.int p1), .val (.int p2)] [])) (fun _ kst => XS.icmpNo X0.here hx rfl (hb hby own_d6_2) rfl (tlt hc9).2.1 kst) ?_
    refine oS (u' := s₁.setTop (mkF m 6 #[.val (.int p1), .val (.int p2)] [(.int (-1 : Int32))])) (fun _ kst => XS.iconst X0.here hx rfl (hb hby own_d6_5) kst) ?_
    refine oS (u' := s₁.setTop (mkF m 19 #[.val (.int p1), .val (.int p2)] [(.int (-1 : Int32))])) (fun _ kst => XS.goto X0.here hx rfl (pc0 := 6) (pc' := 19) rfl (hb hby own_d6_6) (by decide) (by decide) kst) ?_
    refine own_retI X0 hx hlk hret (hb hby own_d6_19) ?_ (by decide) (by decide)
    exact ⟨(by show (some (.int (-1 : Int32)) : Option Value) = _; unfold own_icmp; rw [if_pos hc9]), e0, rfl⟩
  · refine oS (u' := s₁.setTop (mkF m 9 #[.val (.int p1), .val (.int p2)] [])) (fun _ kst => XS.icmpYes X0.here hx rfl (pc0 := 2) (pc' := 9) rfl (hb hby own_d6_2) rfl (flt hc9).2.1 (by decide) (by decide) kst) ?_
    refine oS (u' := s₁.setTop (mkF m 10 #[.val (.int p1), .val (.int p2)] [(.int p1)])) (fun _ kst => XS.iloadN X0.here hx rfl (hb hby own_d6_9) rfl kst) ?_
    refine oS (u' := s₁.setTop (mkF m 11 #[.val (.int p1), .val (.int p2)] [(.int p2), (.int p1)])) (fun _ kst => XS.iloadN X0.here hx rfl (hb hby own_d6_10) rfl kst) ?_
    by_cases hc10 : p1 = p2
    · refine oS (u' := s₁.setTop (mkF m 14 #[.val (.int p1), .val (.int p2)] [])) (fun _ kst => XS.icmpNo X0.here hx rfl (hb hby own_d6_11) rfl (teq hc10).2 kst) ?_
      refine oS (u' := s₁.setTop (mkF m 15 #[.val (.int p1), .val (.int p2)] [(.int (0 : Int32))])) (fun _ kst => XS.iconst X0.here hx rfl (hb hby own_d6_14) kst) ?_
      refine oS (u' := s₁.setTop (mkF m 19 #[.val (.int p1), .val (.int p2)] [(.int (0 : Int32))])) (fun _ kst => XS.goto X0.here hx rfl (pc0 := 15) (pc' := 19) rfl (hb hby own_d6_15) (by decide) (by decide) kst) ?_
      refine own_retI X0 hx hlk hret (hb hby own_d6_19) ?_ (by decide) (by decide)
      exact ⟨(by show (some (.int (0 : Int32)) : Option Value) = _; unfold own_icmp; rw [if_neg hc9, if_pos hc10]), e0, rfl⟩
    · refine oS (u' := s₁.setTop (mkF m 18 #[.val (.int p1), .val (.int p2)] [])) (fun _ kst => XS.icmpYes X0.here hx rfl (pc0 := 11) (pc' := 18) rfl (hb hby own_d6_11) rfl (feq hc10).2 (by decide) (by decide) kst) ?_
      refine oS (u' := s₁.setTop (mkF m 19 #[.val (.int p1), .val (.int p2)] [(.int (1 : Int32))])) (fun _ kst => XS.iconst X0.here hx rfl (hb hby own_d6_18) kst) ?_
      refine own_retI X0 hx hlk hret (hb hby own_d6_19) ?_ (by decide) (by decide)
      exact ⟨(by show (some (.int (1 : Int32)) : Option Value) = _; unfold own_icmp; rw [if_neg hc9, if_neg hc10]), e0, rfl⟩
theorem own_d5_0 : decode prog_31_method_2_code 0 = .ok (.aload_n 0, 1) := by decide +kernel
theorem own_d5_1 : decode prog_31_method_2_code 1 = .ok (.getfield 7, 3) := by decide +kernel
theorem own_d5_4 : decode prog_31_method_2_code 4 = .ok (.aload_n 1, 1) := by decide +kernel
theorem own_d5_5 : decode prog_31_method_2_code 5 = .ok (.getfield 7, 3) := by decide +kernel
theorem own_d5_8 : decode prog_31_method_2_code 8 = .ok (.invokestatic 16, 3) := by decide +kernel
theorem own_d5_11 : decode prog_31_method_2_code 11 = .ok (.istore_n 2, 1) := by decide +kernel
theorem own_d5_12 : decode prog_31_method_2_code 12 = .ok (.iload_n 2, 1) := by decide +kernel
theorem own_d5_13 : decode prog_31_method_2_code 13 = .ok (.ifCond .ne 15, 3) := by decide +kernel
theorem own_d5_16 : decode prog_31_method_2_code 16 = .ok (.aload_n 0, 1) := by decide +kernel
theorem own_d5_17 : decode prog_31_method_2_code 17 = .ok (.getfield 13, 3) := by decide +kernel
theorem own_d5_20 : decode prog_31_method_2_code 20 = .ok (.aload_n 1, 1) := by decide +kernel
theorem own_d5_21 : decode prog_31_method_2_code 21 = .ok (.getfield 13, 3) := by decide +kernel
theorem own_d5_24 : decode prog_31_method_2_code 24 = .ok (.invokestatic 16, 3) := by decide +kernel
theorem own_d5_27 : decode prog_31_method_2_code 27 = .ok (.istore_n 2, 1) := by decide +kernel
theorem own_d5_28 : decode prog_31_method_2_code 28 = .ok (.iload_n 2, 1) := by decide +kernel
theorem own_d5_29 : decode prog_31_method_2_code 29 = .ok (.ireturn, 1) := by decide +kernel
theorem own_ef5 (m : MethodId) (x0 : Addr) (x1 : Addr) : entryFrame m #[(.ref x0), (.ref x1)] 3 = mkF m 0 #[.val (.ref x0), .val (.ref x1), .unset] [] := by first | (simp [entryFrame, mkF, argsToLocals, Value.category, maxLocals]; done) | rfl
theorem own_pd1 : parseMethodDescriptor "(II)I" = some ⟨[.int, .int], some .int⟩ := by decide +kernel
def own_cto (r0 : Addr) (p1 : Addr) (l1 : Int32) (c1 : Int32) (l2 : Int32) (c2 : Int32) : Int32 := (if (own_icmp l1 l2) = (0 : Int32) then (own_icmp c1 c2) else (own_icmp l1 l2))
set_option maxRecDepth 65536 in
set_option maxHeartbeats 40000000 in
theorem own_rm_cto (l : Launch) (Z : State) (a0 : Array Value) (hw : ∀ d ∈ tables_1, d.before a0 Z = true) (r0 : Addr) (p1 : Addr) (l1 : Int32) (c1 : Int32) (l2 : Int32) (c2 : Int32) (h0 : Heap) (Flr0 : Fld Z h0 r0 "com/example/demitasse/demitasse/source/Position" "line" "I" (.int l1)) (Fcr0 : Fld Z h0 r0 "com/example/demitasse/demitasse/source/Position" "column" "I" (.int c1)) (Flp1 : Fld Z h0 p1 "com/example/demitasse/demitasse/source/Position" "line" "I" (.int l2)) (Fcp1 : Fld Z h0 p1 "com/example/demitasse/demitasse/source/Position" "column" "I" (.int c2)) : own_Con l Z [] (⟨"com/example/demitasse/demitasse/source/Position", "compareTo", "(Lcom/example/demitasse/demitasse/source/Position;)I"⟩ : MethodName) prog_31_method_2_code 3 (some .int) ({ frames := 1, cells := 0, slots := 0, locals := 13 } : Room) #[(.ref r0), (.ref p1)] h0 (own_Q1 (some (.int (own_cto r0 p1 l1 c1 l2 c2))) h0) := by
  refine own_body (plainFor_of_name own_pn_Position) ?_
  intro p e s m below meth c s₁ X0 hx hby hml hret hlk hown hnm hZ e0
  refine oS (u' := s₁.setTop (mkF m 0 #[.val (.ref r0), .val (.ref p1), .unset] [])) (fun _ kst => castTop (own_ef5 m r0 p1) kst) ?_
  refine oS (u' := s₁.setTop (mkF m 1 #[.val (.ref r0), .val (.ref p1), .unset] [(.ref r0)])) (fun _ kst => XS.aloadN X0.here hx rfl (hb hby own_d5_0) rfl rfl kst) ?_
  obtain ⟨T11, X11, e11, st11⟩ := getF X0 hx hZ hown (host := "") (Or.inl (hw _ (List.mem_of_getElem? (i := 62) rfl))) Via.refl e0 Flr0 (g := (mkF m 1 #[.val (.ref r0), .val (.ref p1), .unset] [(.ref r0)])) rfl rfl (hb hby own_d5_1)
  refine oS (u' := T11.setTop (mkF m 4 #[.val (.ref r0), .val (.ref p1), .unset] [(.int l1)])) st11 ?_
  refine oS (u' := T11.setTop (mkF m 5 #[.val (.ref r0), .val (.ref p1), .unset] [(.ref p1), (.int l1)])) (fun _ kst => XS.aloadN X11.here hx rfl (hb hby own_d5_4) rfl rfl kst) ?_
  obtain ⟨T12, X12, e12, st12⟩ := getF X11 hx hZ hown (host := "") (Or.inl (hw _ (List.mem_of_getElem? (i := 62) rfl))) Via.refl e11 Flp1 (g := (mkF m 5 #[.val (.ref r0), .val (.ref p1), .unset] [(.ref p1), (.int l1)])) rfl rfl (hb hby own_d5_5)
  refine oS (u' := T12.setTop (mkF m 8 #[.val (.ref r0), .val (.ref p1), .unset] [(.int l2), (.int l1)])) st12 ?_
  obtain ⟨T13, X13, e13, st13⟩ := own_callSP X12 hx hZ (y := (⟨"java/lang/Integer", "compare", "(II)I"⟩ : MethodName)) hown (hw _ (List.mem_of_getElem? (i := 90) rfl)) (hw _ (List.mem_of_getElem? (i := 91) rfl)) (hw _ (List.mem_of_getElem? (i := 93) rfl)) (hw _ (List.mem_of_getElem? (i := 92) rfl)) (by decide) e12 (W := 0) (own_rm_icmp l Z a0 hw l1 l2 h0 ) (by decide) (by decide) (g := (mkF m 8 #[.val (.ref r0), .val (.ref p1), .unset] [(.int l2), (.int l1)])) rfl (by rw [hml]; rfl) (argsL := [(.int l1), (.int l2)]) (rest := []) (lenOf own_pd1 rfl) rfl (by show 2 * 0 + _ ≤ _; exact Nat.le_of_eq rfl) (hb hby own_d5_8) (by decide) (by decide)
  refine oS (u' := T13.setTop (mkF m 11 #[.val (.ref r0), .val (.ref p1), .unset] [(.int (own_icmp l1 l2))])) st13 ?_
  refine oS (u' := T13.setTop (mkF m 12 #[.val (.ref r0), .val (.ref p1), .val (.int (own_icmp l1 l2))] [])) (fun _ kst => XS.istoreN X13.here hx rfl (hb hby own_d5_11) rfl (l' := #[.val (.ref r0), .val (.ref p1), .val (.int (own_icmp l1 l2))]) rfl kst) ?_
  refine oS (u' := T13.setTop (mkF m 13 #[.val (.ref r0), .val (.ref p1), .val (.int (own_icmp l1 l2))] [(.int (own_icmp l1 l2))])) (fun _ kst => XS.iloadN X13.here hx rfl (hb hby own_d5_12) rfl kst) ?_
  by_cases hc14 : (own_icmp l1 l2) = (0 : Int32)
  · refine oS (u' := T13.setTop (mkF m 16 #[.val (.ref r0), .val (.ref p1), .val (.int (own_icmp l1 l2))] [])) (fun _ kst => XS.ifNo X13.here hx rfl (hb hby own_d5_13) rfl ((if0 _ _).trans (teq hc14).2) kst) ?_
    refine oS (u' := T13.setTop (mkF m 17 #[.val (.ref r0), .val (.ref p1), .val (.int (own_icmp l1 l2))] [(.ref r0)])) (fun _ kst => XS.aloadN X13.here hx rfl (hb hby own_d5_16) rfl rfl kst) ?_
    obtain ⟨T15, X15, e15, st15⟩ := getF X13 hx hZ hown (host := "") (Or.inl (hw _ (List.mem_of_getElem? (i := 64) rfl))) Via.refl e13 Fcr0 (g := (mkF m 17 #[.val (.ref r0), .val (.ref p1), .val (.int (own_icmp l1 l2))] [(.ref r0)])) rfl rfl (hb hby own_d5_17)
    refine oS (u' := T15.setTop (mkF m 20 #[.val (.ref r0), .val (.ref p1), .val (.int (own_icmp l1 l2))] [(.int c1)])) st15 ?_
    refine oS (u' := T15.setTop (mkF m 21 #[.val (.ref r0), .val (.ref p1), .val (.int (own_icmp l1 l2))] [(.ref p1), (.int c1)])) (fun _ kst => XS.aloadN X15.here hx rfl (hb hby own_d5_20) rfl rfl kst) ?_
    obtain ⟨T16, X16, e16, st16⟩ := getF X15 hx hZ hown (host := "") (Or.inl (hw _ (List.mem_of_getElem? (i := 64) rfl))) Via.refl e15 Fcp1 (g := (mkF m 21 #[.val (.ref r0), .val (.ref p1), .val (.int (own_icmp l1 l2))] [(.ref p1), (.int c1)])) rfl rfl (hb hby own_d5_21)
    refine oS (u' := T16.setTop (mkF m 24 #[.val (.ref r0), .val (.ref p1), .val (.int (own_icmp l1 l2))] [(.int c2), (.int c1)])) st16 ?_
    obtain ⟨T17, X17, e17, st17⟩ := own_callSP X16 hx hZ (y := (⟨"java/lang/Integer", "compare", "(II)I"⟩ : MethodName)) hown (hw _ (List.mem_of_getElem? (i := 90) rfl)) (hw _ (List.mem_of_getElem? (i := 91) rfl)) (hw _ (List.mem_of_getElem? (i := 93) rfl)) (hw _ (List.mem_of_getElem? (i := 92) rfl)) (by decide) e16 (W := 0) (own_rm_icmp l Z a0 hw c1 c2 h0 ) (by decide) (by decide) (g := (mkF m 24 #[.val (.ref r0), .val (.ref p1), .val (.int (own_icmp l1 l2))] [(.int c2), (.int c1)])) rfl (by rw [hml]; rfl) (argsL := [(.int c1), (.int c2)]) (rest := []) (lenOf own_pd1 rfl) rfl (by show 2 * 0 + _ ≤ _; exact Nat.le_of_eq rfl) (hb hby own_d5_24) (by decide) (by decide)
    refine oS (u' := T17.setTop (mkF m 27 #[.val (.ref r0), .val (.ref p1), .val (.int (own_icmp l1 l2))] [(.int (own_icmp c1 c2))])) st17 ?_
    refine oS (u' := T17.setTop (mkF m 28 #[.val (.ref r0), .val (.ref p1), .val (.int (own_icmp c1 c2))] [])) (fun _ kst => XS.istoreN X17.here hx rfl (hb hby own_d5_27) rfl (l' := #[.val (.ref r0), .val (.ref p1), .val (.int (own_icmp c1 c2))]) rfl kst) ?_
    refine oS (u' := T17.setTop (mkF m 29 #[.val (.ref r0), .val (.ref p1), .val (.int (own_icmp c1 c2))] [(.int (own_icmp c1 c2))])) (fun _ kst => XS.iloadN X17.here hx rfl (hb hby own_d5_28) rfl kst) ?_
    refine own_retI X17 hx hlk hret (hb hby own_d5_29) ?_ (by decide) (by decide)
    exact ⟨(by show (some (.int (own_icmp c1 c2)) : Option Value) = _; unfold own_cto; rw [if_pos hc14]), e17, rfl⟩
  · refine oS (u' := T13.setTop (mkF m 28 #[.val (.ref r0), .val (.ref p1), .val (.int (own_icmp l1 l2))] [])) (fun _ kst => XS.ifYes X13.here hx rfl (pc0 := 13) (pc' := 28) rfl (hb hby own_d5_13) rfl ((if0 _ _).trans (feq hc14).2) (by decide) (by decide) kst) ?_
    refine oS (u' := T13.setTop (mkF m 29 #[.val (.ref r0), .val (.ref p1), .val (.int (own_icmp l1 l2))] [(.int (own_icmp l1 l2))])) (fun _ kst => XS.iloadN X13.here hx rfl (hb hby own_d5_28) rfl kst) ?_
    refine own_retI X13 hx hlk hret (hb hby own_d5_29) ?_ (by decide) (by decide)
    exact ⟨(by show (some (.int (own_icmp l1 l2)) : Option Value) = _; unfold own_cto; rw [if_neg hc14]), e13, rfl⟩
theorem own_d7_0 : decode prog_26_method_5_code 0 = .ok (.aload_n 0, 1) := by decide +kernel
theorem own_d7_1 : decode prog_26_method_5_code 1 = .ok (.getfield 13, 3) := by decide +kernel
theorem own_d7_4 : decode prog_26_method_5_code 4 = .ok (.aload_n 1, 1) := by decide +kernel
theorem own_d7_5 : decode prog_26_method_5_code 5 = .ok (.getfield 13, 3) := by decide +kernel
theorem own_d7_8 : decode prog_26_method_5_code 8 = .ok (.invokevirtual 45, 3) := by decide +kernel
theorem own_d7_11 : decode prog_26_method_5_code 11 = .ok (.ireturn, 1) := by decide +kernel
theorem own_ef7 (m : MethodId) (x0 : Addr) (x1 : Addr) : entryFrame m #[(.ref x0), (.ref x1)] 2 = mkF m 0 #[.val (.ref x0), .val (.ref x1)] [] := by first | (simp [entryFrame, mkF, argsToLocals, Value.category, maxLocals]; done) | rfl
theorem own_pd2 : parseMethodDescriptor "(Lcom/example/demitasse/demitasse/source/Position;)I" = some ⟨[(.object "com/example/demitasse/demitasse/source/Position")], some .int⟩ := by decide +kernel
def own_dto (r0 : Addr) (p1 : Addr) (pa : Addr) (pb : Addr) (l1 : Int32) (c1 : Int32) (l2 : Int32) (c2 : Int32) : Int32 := (own_cto pa pb l1 c1 l2 c2)
set_option maxRecDepth 65536 in
set_option maxHeartbeats 40000000 in
theorem own_rm_dto (l : Launch) (Z : State) (a0 : Array Value) (hw : ∀ d ∈ tables_1, d.before a0 Z = true) (r0 : Addr) (p1 : Addr) (pa : Addr) (pb : Addr) (l1 : Int32) (c1 : Int32) (l2 : Int32) (c2 : Int32) (h0 : Heap) (Fdr0 : Fld Z h0 r0 "com/example/demitasse/demitasse/source/Diagnostic" "position" "Lcom/example/demitasse/demitasse/source/Position;" (.ref pa)) (Fdp1 : Fld Z h0 p1 "com/example/demitasse/demitasse/source/Diagnostic" "position" "Lcom/example/demitasse/demitasse/source/Position;" (.ref pb)) (Epa : Exa Z h0 pa "com/example/demitasse/demitasse/source/Position") (Flpa : Fld Z h0 pa "com/example/demitasse/demitasse/source/Position" "line" "I" (.int l1)) (Fcpa : Fld Z h0 pa "com/example/demitasse/demitasse/source/Position" "column" "I" (.int c1)) (Flpb : Fld Z h0 pb "com/example/demitasse/demitasse/source/Position" "line" "I" (.int l2)) (Fcpb : Fld Z h0 pb "com/example/demitasse/demitasse/source/Position" "column" "I" (.int c2)) : own_Con l Z [] (⟨"com/example/demitasse/demitasse/source/Diagnostic", "compareTo", "(Lcom/example/demitasse/demitasse/source/Diagnostic;)I"⟩ : MethodName) prog_26_method_5_code 2 (some .int) ({ frames := 2, cells := 0, slots := 0, locals := 27 } : Room) #[(.ref r0), (.ref p1)] h0 (own_Q1 (some (.int (own_dto r0 p1 pa pb l1 c1 l2 c2))) h0) := by
  refine own_body (plainFor_of_name own_pn_Diagnostic) ?_
  intro p e s m below meth c s₁ X0 hx hby hml hret hlk hown hnm hZ e0
  refine oS (u' := s₁.setTop (mkF m 0 #[.val (.ref r0), .val (.ref p1)] [])) (fun _ kst => castTop (own_ef7 m r0 p1) kst) ?_
  refine oS (u' := s₁.setTop (mkF m 1 #[.val (.ref r0), .val (.ref p1)] [(.ref r0)])) (fun _ kst => XS.aloadN X0.here hx rfl (hb hby own_d7_0) rfl rfl kst) ?_
  obtain ⟨T18, X18, e18, st18⟩ := getF X0 hx hZ hown (host := "") (Or.inl (hw _ (List.mem_of_getElem? (i := 72) rfl))) Via.refl e0 Fdr0 (g := (mkF m 1 #[.val (.ref r0), .val (.ref p1)] [(.ref r0)])) rfl rfl (hb hby own_d7_1)
  refine oS (u' := T18.setTop (mkF m 4 #[.val (.ref r0), .val (.ref p1)] [(.ref pa)])) st18 ?_
  refine oS (u' := T18.setTop (mkF m 5 #[.val (.ref r0), .val (.ref p1)] [(.ref p1), (.ref pa)])) (fun _ kst => XS.aloadN X18.here hx rfl (hb hby own_d7_4) rfl rfl kst) ?_
  obtain ⟨T19, X19, e19, st19⟩ := getF X18 hx hZ hown (host := "") (Or.inl (hw _ (List.mem_of_getElem? (i := 72) rfl))) Via.refl e18 Fdp1 (g := (mkF m 5 #[.val (.ref r0), .val (.ref p1)] [(.ref p1), (.ref pa)])) rfl rfl (hb hby own_d7_5)
  refine oS (u' := T19.setTop (mkF m 8 #[.val (.ref r0), .val (.ref p1)] [(.ref pb), (.ref pa)])) st19 ?_
  obtain ⟨T20, X20, e20, st20⟩ := own_callVP X19 hx hZ (y := (⟨"com/example/demitasse/demitasse/source/Position", "compareTo", "(Lcom/example/demitasse/demitasse/source/Position;)I"⟩ : MethodName)) (z := (⟨"com/example/demitasse/demitasse/source/Position", "compareTo", "(Lcom/example/demitasse/demitasse/source/Position;)I"⟩ : MethodName)) hown (hw _ (List.mem_of_getElem? (i := 85) rfl)) (hw _ (List.mem_of_getElem? (i := 86) rfl)) (notFace_of_selects (args := #[]) (mvT hZ (hw _ (List.mem_of_getElem? (i := 88) rfl)))) (hw _ (List.mem_of_getElem? (i := 88) rfl)) (hw _ (List.mem_of_getElem? (i := 87) rfl)) (by decide) e19 Epa (W := 0) (own_rm_cto l Z a0 hw pa pb l1 c1 l2 c2 h0 Flpa Fcpa Flpb Fcpb) (hw _ (List.mem_of_getElem? (i := 89) rfl)) (hw _ (List.mem_of_getElem? (i := 52) rfl)) (by decide) (by decide) (g := (mkF m 8 #[.val (.ref r0), .val (.ref p1)] [(.ref pb), (.ref pa)])) rfl (by rw [hml]; rfl) (b := pa) (argsL := [(.ref pb)]) (rest := []) (lenOf own_pd2 rfl) rfl (by show 2 * 0 + _ ≤ _; exact Nat.le_of_eq rfl) (hb hby own_d7_8) (by decide) (by decide)
  refine oS (u' := T20.setTop (mkF m 11 #[.val (.ref r0), .val (.ref p1)] [(.int (own_cto pa pb l1 c1 l2 c2))])) st20 ?_
  refine own_retI X20 hx hlk hret (hb hby own_d7_11) ?_ (by decide) (by decide)
  exact ⟨rfl, e20, rfl⟩
theorem own_d8_0 : decode method_3_code 0 = .ok (.iload_n 0, 1) := by decide +kernel
theorem own_d8_1 : decode method_3_code 1 = .ok (.iload_n 2, 1) := by decide +kernel
theorem own_d8_2 : decode method_3_code 2 = .ok (.if_icmp .ge 5, 3) := by decide +kernel
theorem own_d8_5 : decode method_3_code 5 = .ok (.iconst (-1), 1) := by decide +kernel
theorem own_d8_6 : decode method_3_code 6 = .ok (.ireturn, 1) := by decide +kernel
theorem own_d8_7 : decode method_3_code 7 = .ok (.iload_n 0, 1) := by decide +kernel
theorem own_d8_8 : decode method_3_code 8 = .ok (.iload_n 2, 1) := by decide +kernel
theorem own_d8_9 : decode method_3_code 9 = .ok (.if_icmp .le 5, 3) := by decide +kernel
theorem own_d8_12 : decode method_3_code 12 = .ok (.iconst 1, 1) := by decide +kernel
theorem own_d8_13 : decode method_3_code 13 = .ok (.ireturn, 1) := by decide +kernel
theorem own_d8_14 : decode method_3_code 14 = .ok (.iload_n 1, 1) := by decide +kernel
theorem own_d8_15 : decode method_3_code 15 = .ok (.iload_n 3, 1) := by decide +kernel
theorem own_d8_16 : decode method_3_code 16 = .ok (.if_icmp .ge 5, 3) := by decide +kernel
theorem own_d8_19 : decode method_3_code 19 = .ok (.iconst (-1), 1) := by decide +kernel
theorem own_d8_20 : decode method_3_code 20 = .ok (.ireturn, 1) := by decide +kernel
theorem own_d8_21 : decode method_3_code 21 = .ok (.iload_n 1, 1) := by decide +kernel
theorem own_d8_22 : decode method_3_code 22 = .ok (.iload_n 3, 1) := by decide +kernel
theorem own_d8_23 : decode method_3_code 23 = .ok (.if_icmp .le 5, 3) := by decide +kernel
theorem own_d8_26 : decode method_3_code 26 = .ok (.iconst 1, 1) := by decide +kernel
theorem own_d8_27 : decode method_3_code 27 = .ok (.ireturn, 1) := by decide +kernel
theorem own_d8_28 : decode method_3_code 28 = .ok (.iconst 0, 1) := by decide +kernel
theorem own_d8_29 : decode method_3_code 29 = .ok (.ireturn, 1) := by decide +kernel
theorem own_pn_DiagnosticCompareToPinLaw : plainName "com/example/demitasse/demitasse/source/DiagnosticCompareToPinLaw" = true := by first | (simp [plainName, overriddenIn]; done) | decide +kernel
theorem own_ef8 (m : MethodId) (x0 : Int32) (x1 : Int32) (x2 : Int32) (x3 : Int32) : entryFrame m #[(.int x0), (.int x1), (.int x2), (.int x3)] 4 = mkF m 0 #[.val (.int x0), .val (.int x1), .val (.int x2), .val (.int x3)] [] := by first | (simp [entryFrame, mkF, argsToLocals, Value.category, maxLocals]; done) | rfl
def own_es (p1 : Int32) (p2 : Int32) (p3 : Int32) (p4 : Int32) : Int32 := (if p1 < p3 then (-1 : Int32) else (if p3 < p1 then (1 : Int32) else (if p2 < p4 then (-1 : Int32) else (if p4 < p2 then (1 : Int32) else (0 : Int32)))))
set_option maxRecDepth 65536 in
set_option maxHeartbeats 40000000 in
theorem own_rm_es (l : Launch) (Z : State) (a0 : Array Value) (hw : ∀ d ∈ tables_1, d.before a0 Z = true) (p1 : Int32) (p2 : Int32) (p3 : Int32) (p4 : Int32) (h0 : Heap) : own_Con l Z [] (⟨"com/example/demitasse/demitasse/source/DiagnosticCompareToPinLaw", "expectedSign", "(IIII)I"⟩ : MethodName) method_3_code 4 (some .int) ({ frames := 0, cells := 0, slots := 0, locals := 0 } : Room) #[(.int p1), (.int p2), (.int p3), (.int p4)] h0 (own_Q1 (some (.int (own_es p1 p2 p3 p4))) h0) := by
  refine own_body (plainFor_of_name own_pn_DiagnosticCompareToPinLaw) ?_
  intro p e s m below meth c s₁ X0 hx hby hml hret hlk hown hnm hZ e0
  refine oS (u' := s₁.setTop (mkF m 0 #[.val (.int p1), .val (.int p2), .val (.int p3), .val (.int p4)] [])) (fun _ kst => castTop (own_ef8 m p1 p2 p3 p4) kst) ?_
  refine oS (u' := s₁.setTop (mkF m 1 #[.val (.int p1), .val (.int p2), .val (.int p3), .val (.int p4)] [(.int p1)])) (fun _ kst => XS.iloadN X0.here hx rfl (hb hby own_d8_0) rfl kst) ?_
  refine oS (u' := s₁.setTop (mkF m 2 #[.val (.int p1), .val (.int p2), .val (.int p3), .val (.int p4)] [(.int p3), (.int p1)])) (fun _ kst => XS.iloadN X0.here hx rfl (hb hby own_d8_1) rfl kst) ?_
  by_cases hc21 : p1 < p3
  · refine oS (u' := s₁.setTop (mkF m 5 #[.val (.int p1), .val (.int p2), .val (.int p3), .val (.int p4)] [])) (fun _ kst => XS.icmpNo X0.here hx rfl (hb hby own_d8_2) rfl (tlt hc21).2.1 kst) ?_
    refine oS (u' := s₁.setTop (mkF m 6 #[.val (.int p1), .val (.int p2), .val (.int p3), .val (.int p4)] [(.int (-1 : Int32))])) (fun _ kst => XS.iconst X0.here hx rfl (hb hby own_d8_5) kst) ?_
    refine own_retI X0 hx hlk hret (hb hby own_d8_6) ?_ (by decide) (by decide)
    exact ⟨(by show (some (.int (-1 : Int32)) : Option Value) = _; unfold own_es; rw [if_pos hc21]), e0, rfl⟩
  · refine oS (u' := s₁.setTop (mkF m 7 #[.val (.int p1), .val (.int p2), .val (.int p3), .val (.int p4)] [])) (fun _ kst => XS.icmpYes X0.here hx rfl (pc0 := 2) (pc' := 7) rfl (hb hby own_d8_2) rfl (flt hc21).2.1 (by decide) (by decide) kst) ?_
    refine oS (u' := s₁.setTop (mkF m 8 #[.val (.int p1), .val (.int p2), .val (.int p3), .val (.int p4)] [(.int p1)])) (fun _ kst => XS.iloadN X0.here hx rfl (hb hby own_d8_7) rfl kst) ?_
    refine oS (u' := s₁.setTop (mkF m 9 #[.val (.int p1), .val (.int p2), .val (.int p3), .val (.int p4)] [(.int p3), (.int p1)])) (fun _ kst => XS.iloadN X0.here hx rfl (hb hby own_d8_8) rfl kst) ?_
    by_cases hc22 : p3 < p1
    · refine oS (u' := s₁.setTop (mkF m 12 #[.val (.int p1), .val (.int p2), .val (.int p3), .val (.int p4)] [])) (fun _ kst => XS.icmpNo X0.here hx rfl (hb hby own_d8_9) rfl (tlt hc22).2.2.2 kst) ?_
      refine oS (u' := s₁.setTop (mkF m 13 #[.val (.int p1), .val (.int p2), .val (.int p3), .val (.int p4)] [(.int (1 : Int32))])) (fun _ kst => XS.iconst X0.here hx rfl (hb hby own_d8_12) kst) ?_
      refine own_retI X0 hx hlk hret (hb hby own_d8_13) ?_ (by decide) (by decide)
      exact ⟨(by show (some (.int (1 : Int32)) : Option Value) = _; unfold own_es; rw [if_neg hc21, if_pos hc22]), e0, rfl⟩
    · refine oS (u' := s₁.setTop (mkF m 14 #[.val (.int p1), .val (.int p2), .val (.int p3), .val (.int p4)] [])) (fun _ kst => XS.icmpYes X0.here hx rfl (pc0 := 9) (pc' := 14) rfl (hb hby own_d8_9) rfl (flt hc22).2.2.2 (by decide) (by decide) kst) ?_
      refine oS (u' := s₁.setTop (mkF m 15 #[.val (.int p1), .val (.int p2), .val (.int p3), .val (.int p4)] [(.int p2)])) (fun _ kst => XS.iloadN X0.here hx rfl (hb hby own_d8_14) rfl kst) ?_
      refine oS (u' := s₁.setTop (mkF m 16 #[.val (.int p1), .val (.int p2), .val (.int p3), .val (.int p4)] [(.int p4), (.int p2)])) (fun _ kst => XS.iloadN X0.here hx rfl (hb hby own_d8_15) rfl kst) ?_
      by_cases hc23 : p2 < p4
      · refine oS (u' := s₁.setTop (mkF m 19 #[.val (.int p1), .val (.int p2), .val (.int p3), .val (.int p4)] [])) (fun _ kst => XS.icmpNo X0.here hx rfl (hb hby own_d8_16) rfl (tlt hc23).2.1 kst) ?_
        refine oS (u' := s₁.setTop (mkF m 20 #[.val (.int p1), .val (.int p2), .val (.int p3), .val (.int p4)] [(.int (-1 : Int32))])) (fun _ kst => XS.iconst X0.here hx rfl (hb hby own_d8_19) kst) ?_
        refine own_retI X0 hx hlk hret (hb hby own_d8_20) ?_ (by decide) (by decide)
        exact ⟨(by show (some (.int (-1 : Int32)) : Option Value) = _; unfold own_es; rw [if_neg hc21, if_neg hc22, if_pos hc23]), e0, rfl⟩
      · refine oS (u' := s₁.setTop (mkF m 21 #[.val (.int p1), .val (.int p2), .val (.int p3), .val (.int p4)] [])) (fun _ kst => XS.icmpYes X0.here hx rfl (pc0 := 16) (pc' := 21) rfl (hb hby own_d8_16) rfl (flt hc23).2.1 (by decide) (by decide) kst) ?_
        refine oS (u' := s₁.setTop (mkF m 22 #[.val (.int p1), .val (.int p2), .val (.int p3), .val (.int p4)] [(.int p2)])) (fun _ kst => XS.iloadN X0.here hx rfl (hb hby own_d8_21) rfl kst) ?_
        refine oS (u' := s₁.setTop (mkF m 23 #[.val (.int p1), .val (.int p2), .val (.int p3), .val (.int p4)] [(.int p4), (.int p2)])) (fun _ kst => XS.iloadN X0.here hx rfl (hb hby own_d8_22) rfl kst) ?_
        by_cases hc24 : p4 < p2
        · refine oS (u' := s₁.setTop (mkF m 26 #[.val (.int p1), .val (.int p2), .val (.int p3), .val (.int p4)] [])) (fun _ kst => XS.icmpNo X0.here hx rfl (hb hby own_d8_23) rfl (tlt hc24).2.2.2 kst) ?_
          refine oS (u' := s₁.setTop (mkF m 27 #[.val (.int p1), .val (.int p2), .val (.int p3), .val (.int p4)] [(.int (1 : Int32))])) (fun _ kst => XS.iconst X0.here hx rfl (hb hby own_d8_26) kst) ?_
          refine own_retI X0 hx hlk hret (hb hby own_d8_27) ?_ (by decide) (by decide)
          exact ⟨(by show (some (.int (1 : Int32)) : Option Value) = _; unfold own_es; rw [if_neg hc21, if_neg hc22, if_neg hc23, if_pos hc24]), e0, rfl⟩
        · refine oS (u' := s₁.setTop (mkF m 28 #[.val (.int p1), .val (.int p2), .val (.int p3), .val (.int p4)] [])) (fun _ kst => XS.icmpYes X0.here hx rfl (pc0 := 23) (pc' := 28) rfl (hb hby own_d8_23) rfl (flt hc24).2.2.2 (by decide) (by decide) kst) ?_
          refine oS (u' := s₁.setTop (mkF m 29 #[.val (.int p1), .val (.int p2), .val (.int p3), .val (.int p4)] [(.int (0 : Int32))])) (fun _ kst => XS.iconst X0.here hx rfl (hb hby own_d8_28) kst) ?_
          refine own_retI X0 hx hlk hret (hb hby own_d8_29) ?_ (by decide) (by decide)
          exact ⟨(by show (some (.int (0 : Int32)) : Option Value) = _; unfold own_es; rw [if_neg hc21, if_neg hc22, if_neg hc23, if_neg hc24]), e0, rfl⟩
theorem own_d9_0 : decode method_2_code 0 = .ok (.iload_n 0, 1) := by decide +kernel
theorem own_d9_1 : decode method_2_code 1 = .ok (.ifCond .ge 5, 3) := by decide +kernel
theorem own_d9_4 : decode method_2_code 4 = .ok (.iconst (-1), 1) := by decide +kernel
theorem own_d9_5 : decode method_2_code 5 = .ok (.ireturn, 1) := by decide +kernel
theorem own_d9_6 : decode method_2_code 6 = .ok (.iload_n 0, 1) := by decide +kernel
theorem own_d9_7 : decode method_2_code 7 = .ok (.ifCond .le 5, 3) := by decide +kernel
theorem own_d9_10 : decode method_2_code 10 = .ok (.iconst 1, 1) := by decide +kernel
theorem own_d9_11 : decode method_2_code 11 = .ok (.ireturn, 1) := by decide +kernel
theorem own_d9_12 : decode method_2_code 12 = .ok (.iconst 0, 1) := by decide +kernel
theorem own_d9_13 : decode method_2_code 13 = .ok (.ireturn, 1) := by decide +kernel
theorem own_ef9 (m : MethodId) (x0 : Int32) : entryFrame m #[(.int x0)] 1 = mkF m 0 #[.val (.int x0)] [] := by first | (simp [entryFrame, mkF, argsToLocals, Value.category, maxLocals]; done) | rfl
def own_sign (p1 : Int32) : Int32 := (if p1 < (0 : Int32) then (-1 : Int32) else (if (0 : Int32) < p1 then (1 : Int32) else (0 : Int32)))
set_option maxRecDepth 65536 in
set_option maxHeartbeats 40000000 in
theorem own_rm_sign (l : Launch) (Z : State) (a0 : Array Value) (hw : ∀ d ∈ tables_1, d.before a0 Z = true) (p1 : Int32) (h0 : Heap) : own_Con l Z [] (⟨"com/example/demitasse/demitasse/source/DiagnosticCompareToPinLaw", "sign", "(I)I"⟩ : MethodName) method_2_code 1 (some .int) ({ frames := 0, cells := 0, slots := 0, locals := 0 } : Room) #[(.int p1)] h0 (own_Q1 (some (.int (own_sign p1))) h0) := by
  refine own_body (plainFor_of_name own_pn_DiagnosticCompareToPinLaw) ?_
  intro p e s m below meth c s₁ X0 hx hby hml hret hlk hown hnm hZ e0
  refine oS (u' := s₁.setTop (mkF m 0 #[.val (.int p1)] [])) (fun _ kst => castTop (own_ef9 m p1) kst) ?_
  refine oS (u' := s₁.setTop (mkF m 1 #[.val (.int p1)] [(.int p1)])) (fun _ kst => XS.iloadN X0.here hx rfl (hb hby own_d9_0) rfl kst) ?_
  by_cases hc25 : p1 < (0 : Int32)
  · refine oS (u' := s₁.setTop (mkF m 4 #[.val (.int p1)] [])) (fun _ kst => XS.ifNo X0.here hx rfl (hb hby own_d9_1) rfl ((if0 _ _).trans (tlt hc25).2.1) kst) ?_
    refine oS (u' := s₁.setTop (mkF m 5 #[.val (.int p1)] [(.int (-1 : Int32))])) (fun _ kst => XS.iconst X0.here hx rfl (hb hby own_d9_4) kst) ?_
    refine own_retI X0 hx hlk hret (hb hby own_d9_5) ?_ (by decide) (by decide)
    exact ⟨(by show (some (.int (-1 : Int32)) : Option Value) = _; unfold own_sign; rw [if_pos hc25]), e0, rfl⟩
  · refine oS (u' := s₁.setTop (mkF m 6 #[.val (.int p1)] [])) (fun _ kst => XS.ifYes X0.here hx rfl (pc0 := 1) (pc' := 6) rfl (hb hby own_d9_1) rfl ((if0 _ _).trans (flt hc25).2.1) (by decide) (by decide) kst) ?_
    refine oS (u' := s₁.setTop (mkF m 7 #[.val (.int p1)] [(.int p1)])) (fun _ kst => XS.iloadN X0.here hx rfl (hb hby own_d9_6) rfl kst) ?_
    by_cases hc26 : (0 : Int32) < p1
    · refine oS (u' := s₁.setTop (mkF m 10 #[.val (.int p1)] [])) (fun _ kst => XS.ifNo X0.here hx rfl (hb hby own_d9_7) rfl ((if0 _ _).trans (tlt hc26).2.2.2) kst) ?_
      refine oS (u' := s₁.setTop (mkF m 11 #[.val (.int p1)] [(.int (1 : Int32))])) (fun _ kst => XS.iconst X0.here hx rfl (hb hby own_d9_10) kst) ?_
      refine own_retI X0 hx hlk hret (hb hby own_d9_11) ?_ (by decide) (by decide)
      exact ⟨(by show (some (.int (1 : Int32)) : Option Value) = _; unfold own_sign; rw [if_neg hc25, if_pos hc26]), e0, rfl⟩
    · refine oS (u' := s₁.setTop (mkF m 12 #[.val (.int p1)] [])) (fun _ kst => XS.ifYes X0.here hx rfl (pc0 := 7) (pc' := 12) rfl (hb hby own_d9_7) rfl ((if0 _ _).trans (flt hc26).2.2.2) (by decide) (by decide) kst) ?_
      refine oS (u' := s₁.setTop (mkF m 13 #[.val (.int p1)] [(.int (0 : Int32))])) (fun _ kst => XS.iconst X0.here hx rfl (hb hby own_d9_12) kst) ?_
      refine own_retI X0 hx hlk hret (hb hby own_d9_13) ?_ (by decide) (by decide)
      exact ⟨(by show (some (.int (0 : Int32)) : Option Value) = _; unfold own_sign; rw [if_neg hc25, if_neg hc26]), e0, rfl⟩
theorem own_da_0 : decode jdk_43_method_3_code 0 = .ok (.iload_n 0, 1) := by decide +kernel
theorem own_da_1 : decode jdk_43_method_3_code 1 = .ok (.sipush 255, 3) := by decide +kernel
theorem own_da_4 : decode jdk_43_method_3_code 4 = .ok (.if_icmp .gt 7, 3) := by decide +kernel
theorem own_da_7 : decode jdk_43_method_3_code 7 = .ok (.iconst 1, 1) := by decide +kernel
theorem own_da_8 : decode jdk_43_method_3_code 8 = .ok (.goto 4, 3) := by decide +kernel
theorem own_da_11 : decode jdk_43_method_3_code 11 = .ok (.iconst 0, 1) := by decide +kernel
theorem own_da_12 : decode jdk_43_method_3_code 12 = .ok (.ireturn, 1) := by decide +kernel
theorem own_pn_StringLatin1 : plainName "java/lang/StringLatin1" = true := by first | (simp [plainName, overriddenIn]; done) | decide +kernel
theorem own_efa (m : MethodId) (x0 : Int32) : entryFrame m #[(.int x0)] 1 = mkF m 0 #[.val (.int x0)] [] := by first | (simp [entryFrame, mkF, argsToLocals, Value.category, maxLocals]; done) | rfl
def own_can (p1 : Int32) : Int32 := (if (255 : Int32) < p1 then ((0 : Int32) &&& 1) else ((1 : Int32) &&& 1))
set_option maxRecDepth 65536 in
set_option maxHeartbeats 40000000 in
theorem own_rm_can (l : Launch) (Z : State) (a0 : Array Value) (hw : ∀ d ∈ tables_1, d.before a0 Z = true) (p1 : Int32) (h0 : Heap) : own_Con l Z [] (⟨"java/lang/StringLatin1", "canEncode", "(C)Z"⟩ : MethodName) jdk_43_method_3_code 1 (some .boolean) ({ frames := 0, cells := 0, slots := 0, locals := 0 } : Room) #[(.int p1)] h0 (own_Q1 (some (.int (own_can p1))) h0) := by
  refine own_body (plainFor_of_name own_pn_StringLatin1) ?_
  intro p e s m below meth c s₁ X0 hx hby hml hret hlk hown hnm hZ e0
  refine oS (u' := s₁.setTop (mkF m 0 #[.val (.int p1)] [])) (fun _ kst => castTop (own_efa m p1) kst) ?_
  refine oS (u' := s₁.setTop (mkF m 1 #[.val (.int p1)] [(.int p1)])) (fun _ kst => XS.iloadN X0.here hx rfl (hb hby own_da_0) rfl kst) ?_
  refine oS (u' := s₁.setTop (mkF m 4 #[.val (.int p1)] [(.int (255 : Int32)), (.int p1)])) (fun _ kst => XS.sipush X0.here hx rfl (hb hby own_da_1) kst) ?_
  by_cases hc27 : (255 : Int32) < p1
  · refine oS (u' := s₁.setTop (mkF m 11 #[.val (.int p1)] [])) (fun _ kst => XS.icmpYes X0.here hx rfl (pc0 := 4) (pc' := 11) rfl (hb hby own_da_4) rfl (tlt hc27).2.2.1 (by decide) (by decide) kst) ?_
    refine oS (u' := s₁.setTop (mkF m 12 #[.val (.int p1)] [(.int (0 : Int32))])) (fun _ kst => XS.iconst X0.here hx rfl (hb hby own_da_11) kst) ?_
    refine own_retN X0 hx hlk (t := .boolean) hret (by simp) (hb hby own_da_12) ?_ (by decide) (by decide)
    exact ⟨(by show (some (.int ((0 : Int32) &&& 1)) : Option Value) = _; unfold own_can; rw [if_pos hc27]), e0, rfl⟩
  · refine oS (u' := s₁.setTop (mkF m 7 #[.val (.int p1)] [])) (fun _ kst => XS.icmpNo X0.here hx rfl (hb hby own_da_4) rfl (flt hc27).2.2.1 kst) ?_
    refine oS (u' := s₁.setTop (mkF m 8 #[.val (.int p1)] [(.int (1 : Int32))])) (fun _ kst => XS.iconst X0.here hx rfl (hb hby own_da_7) kst) ?_
    refine oS (u' := s₁.setTop (mkF m 12 #[.val (.int p1)] [(.int (1 : Int32))])) (fun _ kst => XS.goto X0.here hx rfl (pc0 := 8) (pc' := 12) rfl (hb hby own_da_8) (by decide) (by decide) kst) ?_
    refine own_retN X0 hx hlk (t := .boolean) hret (by simp) (hb hby own_da_12) ?_ (by decide) (by decide)
    exact ⟨(by show (some (.int ((1 : Int32) &&& 1)) : Option Value) = _; unfold own_can; rw [if_neg hc27]), e0, rfl⟩
theorem own_db_0 : decode jdk_43_method_46_code 0 = .ok (.iconst 1, 1) := by decide +kernel
theorem own_db_1 : decode jdk_43_method_46_code 1 = .ok (.newarray .byte, 2) := by decide +kernel
theorem own_db_3 : decode jdk_43_method_46_code 3 = .ok (.dup, 1) := by decide +kernel
theorem own_db_4 : decode jdk_43_method_46_code 4 = .ok (.iconst 0, 1) := by decide +kernel
theorem own_db_5 : decode jdk_43_method_46_code 5 = .ok (.iload_n 0, 1) := by decide +kernel
theorem own_db_6 : decode jdk_43_method_46_code 6 = .ok (.i2b, 1) := by decide +kernel
theorem own_db_7 : decode jdk_43_method_46_code 7 = .ok (.bastore, 1) := by decide +kernel
theorem own_db_8 : decode jdk_43_method_46_code 8 = .ok (.areturn, 1) := by decide +kernel
theorem own_efb (m : MethodId) (x0 : Int32) : entryFrame m #[(.int x0)] 1 = mkF m 0 #[.val (.int x0)] [] := by first | (simp [entryFrame, mkF, argsToLocals, Value.category, maxLocals]; done) | rfl
set_option maxRecDepth 65536 in
set_option maxHeartbeats 40000000 in
theorem own_rm_tob (l : Launch) (Z : State) (a0 : Array Value) (hw : ∀ d ∈ tables_1, d.before a0 Z = true) (p1 : Int32) (h0 : Heap) (n0 : Nat) (Z0 : n0 ≤ h0.size) : own_Con l Z [] (⟨"java/lang/StringLatin1", "toBytes", "(C)[B"⟩ : MethodName) jdk_43_method_46_code 1 (some (.array .byte)) ({ frames := 0, cells := 1, slots := 1, locals := 0 } : Room) #[(.int p1)] h0 (fun v h L => ∃ b : Addr, v = some (.ref b) ∧ Fr n0 L ∧ Keep h0 h [] ∧ n0 ≤ b ∧ h0.size ≤ b) := by
  refine own_body (plainFor_of_name own_pn_StringLatin1) ?_
  intro p e s m below meth c s₁ X0 hx hby hml hret hlk hown hnm hZ e0
  have N0 := Fr.nil n0
  have K0 : Keep h0 h0 [] := Keep.refl _ _
  refine oS (u' := s₁.setTop (mkF m 0 #[.val (.int p1)] [])) (fun _ kst => castTop (own_efb m p1) kst) ?_
  refine oS (u' := s₁.setTop (mkF m 1 #[.val (.int p1)] [(.int (1 : Int32))])) (fun _ kst => XS.iconst X0.here hx rfl (hb hby own_db_0) kst) ?_
  obtain ⟨T28, h28, X28, e28, E28, A28, st28⟩ := own_newP X0 hx hZ (hw _ (List.mem_of_getElem? (i := 22) rfl)) e0 (g := (mkF m 1 #[.val (.int p1)] [(.int (1 : Int32))])) rfl (hb hby own_db_1) rfl (k := 1) (by decide) (cap := 1) (by decide) (by decide) (by decide) (by decide)
  obtain ⟨b28, g28⟩ : ∃ z, z = h0.size := ⟨_, rfl⟩
  rw [← g28] at A28 st28
  have gb_b28 : n0 ≤ b28 := Nat.le_trans Z0 (Nat.le_of_eq g28.symm)
  have sz_b28 : h0.size ≤ b28 := Nat.le_trans K0.1 (Nat.le_of_eq g28.symm)
  have K28 := K0.ext E28
  have Z28 := Nat.le_trans Z0 E28.1
  have V28 : own_Ar Z h28 b28 .byte 1 (fun _ => .int (0 : Int32)) := A28
  refine oS (u' := T28.setTop (mkF m 3 #[.val (.int p1)] [(.ref b28)])) st28 ?_
  refine oS (u' := T28.setTop (mkF m 4 #[.val (.int p1)] [(.ref b28), (.ref b28)])) (fun _ kst => XS.dup X28.here hx rfl (hb hby own_db_3) rfl rfl kst) ?_
  refine oS (u' := T28.setTop (mkF m 5 #[.val (.int p1)] [(.int (0 : Int32)), (.ref b28), (.ref b28)])) (fun _ kst => XS.iconst X28.here hx rfl (hb hby own_db_4) kst) ?_
  refine oS (u' := T28.setTop (mkF m 6 #[.val (.int p1)] [(.int p1), (.int (0 : Int32)), (.ref b28), (.ref b28)])) (fun _ kst => XS.iloadN X28.here hx rfl (hb hby own_db_5) rfl kst) ?_
  refine oS (u' := T28.setTop (mkF m 7 #[.val (.int p1)] [(.int p1.toInt8.toInt32), (.int (0 : Int32)), (.ref b28), (.ref b28)])) (fun _ kst => XS.i2b X28.here hx rfl (hb hby own_db_6) rfl kst) ?_
  obtain ⟨T29, h29, X29, e29, W29, st29⟩ := own_stB X28 hx hZ e28 V28 (k := 0) (by decide) (by decide) (g := (mkF m 7 #[.val (.int p1)] [(.int p1.toInt8.toInt32), (.int (0 : Int32)), (.ref b28), (.ref b28)])) rfl rfl (hb hby own_db_7)
  have f29_A_b28 := V28.set W29 (by decide)
  have K29 := K28.wr W29 (Or.inr sz_b28)
  have Z29 := Nat.le_trans Z28 (Keep.of_wr W29).1
  have N29 := Fr.snoc X29 N0 gb_b28
  refine oS (u' := T29.setTop (mkF m 8 #[.val (.int p1)] [(.ref b28)])) st29 ?_
  refine own_retA X29 hx hlk hret rfl rfl (hb hby own_db_8) ?_ (by decide) (by decide)
  show ∃ b : Addr, _
  rw [e29]
  exact ⟨b28, rfl, N29, K29, gb_b28, sz_b28⟩
theorem own_dc_0 : decode jdk_42_method_151_code 0 = .ok (.aload_n 0, 1) := by decide +kernel
theorem own_dc_1 : decode jdk_42_method_151_code 1 = .ok (.invokespecial 1, 3) := by decide +kernel
theorem own_dc_4 : decode jdk_42_method_151_code 4 = .ok (.aload_n 0, 1) := by decide +kernel
theorem own_dc_5 : decode jdk_42_method_151_code 5 = .ok (.aload_n 1, 1) := by decide +kernel
theorem own_dc_6 : decode jdk_42_method_151_code 6 = .ok (.putfield 9, 3) := by decide +kernel
theorem own_dc_9 : decode jdk_42_method_151_code 9 = .ok (.aload_n 0, 1) := by decide +kernel
theorem own_dc_10 : decode jdk_42_method_151_code 10 = .ok (.iload_n 2, 1) := by decide +kernel
theorem own_dc_11 : decode jdk_42_method_151_code 11 = .ok (.putfield 15, 3) := by decide +kernel
theorem own_dc_14 : decode jdk_42_method_151_code 14 = .ok (.return_, 1) := by decide +kernel
theorem own_pn_String : plainName "java/lang/String" = true := by first | (simp [plainName, overriddenIn]; done) | decide +kernel
theorem own_efc (m : MethodId) (x0 : Addr) (x1 : Addr) (x2 : Int32) : entryFrame m #[(.ref x0), (.ref x1), (.int x2)] 3 = mkF m 0 #[.val (.ref x0), .val (.ref x1), .val (.int x2)] [] := by first | (simp [entryFrame, mkF, argsToLocals, Value.category, maxLocals]; done) | rfl
set_option maxRecDepth 65536 in
set_option maxHeartbeats 40000000 in
theorem own_rm_sinit (l : Launch) (Z : State) (a0 : Array Value) (hw : ∀ d ∈ tables_1, d.before a0 Z = true) (r0 : Addr) (a1 : Addr) (h0 : Heap) (n0 : Nat) (Z0 : n0 ≤ h0.size) (E0 : Exa Z h0 r0 "java/lang/String") (F_v : Fld Z h0 r0 "java/lang/String" "value" "[B" .null) (F_c : Fld Z h0 r0 "java/lang/String" "coder" "B" (.int (0 : Int32))) (g0 : n0 ≤ r0) : own_Con l Z [] (⟨"java/lang/String", "<init>", "([BB)V"⟩ : MethodName) jdk_42_method_151_code 3 none ({ frames := 1, cells := 0, slots := 0, locals := 12 } : Room) #[(.ref r0), (.ref a1), (.int (0 : Int32))] h0 (fun v h L => v = none ∧ Fr n0 L ∧ Keep h0 h [r0]) := by
  refine own_body (plainFor_of_name own_pn_String) ?_
  intro p e s m below meth c s₁ X0 hx hby hml hret hlk hown hnm hZ e0
  have N0 := Fr.nil n0
  have K0 : Keep h0 h0 [r0] := Keep.refl _ _
  refine oS (u' := s₁.setTop (mkF m 0 #[.val (.ref r0), .val (.ref a1), .val (.int (0 : Int32))] [])) (fun _ kst => castTop (own_efc m r0 a1 (0 : Int32)) kst) ?_
  refine oS (u' := s₁.setTop (mkF m 1 #[.val (.ref r0), .val (.ref a1), .val (.int (0 : Int32))] [(.ref r0)])) (fun _ kst => XS.aloadN X0.here hx rfl (hb hby own_dc_0) rfl rfl kst) ?_
  obtain ⟨T30, X30, e30, st30⟩ := initO X0 hx hZ hown (hw _ (List.mem_of_getElem? (i := 14) rfl)) (hw _ (List.mem_of_getElem? (i := 15) rfl)) (hw _ (List.mem_of_getElem? (i := 16) rfl)) e0 (g := (mkF m 1 #[.val (.ref r0), .val (.ref a1), .val (.int (0 : Int32))] [(.ref r0)])) rfl (by rw [hml]; rfl) rfl (hb hby own_dc_1) (by decide) (W := 0) (by show 2 * 0 + _ ≤ _; exact Nat.le_of_eq rfl) (by decide)
  refine oS (u' := T30.setTop (mkF m 4 #[.val (.ref r0), .val (.ref a1), .val (.int (0 : Int32))] [])) st30 ?_
  refine oS (u' := T30.setTop (mkF m 5 #[.val (.ref r0), .val (.ref a1), .val (.int (0 : Int32))] [(.ref r0)])) (fun _ kst => XS.aloadN X30.here hx rfl (hb hby own_dc_4) rfl rfl kst) ?_
  refine oS (u' := T30.setTop (mkF m 6 #[.val (.ref r0), .val (.ref a1), .val (.int (0 : Int32))] [(.ref a1), (.ref r0)])) (fun _ kst => XS.aloadN X30.here hx rfl (hb hby own_dc_5) rfl rfl kst) ?_
  obtain ⟨T31, h31, X31, e31, W31, st31⟩ := putF X30 hx hZ hown (host := "") (Or.inl (hw _ (List.mem_of_getElem? (i := 31) rfl))) Via.refl e30 F_v E0 (Or.inr ⟨(hw _ (List.mem_of_getElem? (i := 32) rfl)), rfl, hnm⟩) (hw _ (List.mem_of_getElem? (i := 5) rfl)) (ty := (.array .byte)) (by decide) rfl rfl (g := (mkF m 6 #[.val (.ref r0), .val (.ref a1), .val (.int (0 : Int32))] [(.ref a1), (.ref r0)])) rfl rfl (hb hby own_dc_6)
  have f31_E_r0 := E0.wr W31
  have f31_F_r0_value := F_v.same W31
  have f31_F_r0_coder := F_c.other W31 (Or.inr (slot_ne (Or.inr (hw _ (List.mem_of_getElem? (i := 30) rfl))) (Or.inr (hw _ (List.mem_of_getElem? (i := 32) rfl))) (by decide) (t := .byte) (t' := (.array .byte)) (by decide) (by decide)))
  have K31 := K0.wr W31 (Or.inl (List.mem_of_getElem? (i := 0) rfl))
  have Z31 := Nat.le_trans Z0 (Keep.of_wr W31).1
  have N31 := Fr.snoc X31 N0 g0
  refine oS (u' := T31.setTop (mkF m 9 #[.val (.ref r0), .val (.ref a1), .val (.int (0 : Int32))] [])) st31 ?_
  refine oS (u' := T31.setTop (mkF m 10 #[.val (.ref r0), .val (.ref a1), .val (.int (0 : Int32))] [(.ref r0)])) (fun _ kst => XS.aloadN X31.here hx rfl (hb hby own_dc_9) rfl rfl kst) ?_
  refine oS (u' := T31.setTop (mkF m 11 #[.val (.ref r0), .val (.ref a1), .val (.int (0 : Int32))] [(.int (0 : Int32)), (.ref r0)])) (fun _ kst => XS.iloadN X31.here hx rfl (hb hby own_dc_10) rfl kst) ?_
  obtain ⟨T32, h32, X32, e32, W32, st32⟩ := putF X31 hx hZ hown (host := "") (Or.inl (hw _ (List.mem_of_getElem? (i := 29) rfl))) Via.refl e31 f31_F_r0_coder f31_E_r0 (Or.inr ⟨(hw _ (List.mem_of_getElem? (i := 30) rfl)), rfl, hnm⟩) (hw _ (List.mem_of_getElem? (i := 5) rfl)) (ty := .byte) (by decide) rfl rfl (g := (mkF m 11 #[.val (.ref r0), .val (.ref a1), .val (.int (0 : Int32))] [(.int (0 : Int32)), (.ref r0)])) rfl rfl (hb hby own_dc_11)
  have f32_E_r0 := f31_E_r0.wr W32
  have f32_F_r0_value := f31_F_r0_value.other W32 (Or.inr (slot_ne (Or.inr (hw _ (List.mem_of_getElem? (i := 32) rfl))) (Or.inr (hw _ (List.mem_of_getElem? (i := 30) rfl))) (by decide) (t := (.array .byte)) (t' := .byte) (by decide) (by decide)))
  have f32_F_r0_coder := f31_F_r0_coder.same W32
  have K32 := K31.wr W32 (Or.inl (List.mem_of_getElem? (i := 0) rfl))
  have Z32 := Nat.le_trans Z31 (Keep.of_wr W32).1
  have N32 := Fr.snoc X32 N31 g0
  refine oS (u' := T32.setTop (mkF m 14 #[.val (.ref r0), .val (.ref a1), .val (.int (0 : Int32))] [])) st32 ?_
  refine own_ret0 X32 hx hlk hret (hb hby own_dc_14) ?_ (by decide) (by decide)
  show _ ∧ _
  rw [e32]
  exact ⟨rfl, N32, K32⟩
theorem own_dd_0 : decode jdk_42_method_139_code 0 = .ok (.getstatic 38, 3) := by decide +kernel
theorem own_dd_3 : decode jdk_42_method_139_code 3 = .ok (.ifCond .eq 23, 3) := by decide +kernel
theorem own_dd_6 : decode jdk_42_method_139_code 6 = .ok (.iload_n 0, 1) := by decide +kernel
theorem own_dd_7 : decode jdk_42_method_139_code 7 = .ok (.invokestatic 1015, 3) := by decide +kernel
theorem own_dd_10 : decode jdk_42_method_139_code 10 = .ok (.ifCond .eq 16, 3) := by decide +kernel
theorem own_dd_13 : decode jdk_42_method_139_code 13 = .ok (.new 10, 3) := by decide +kernel
theorem own_dd_16 : decode jdk_42_method_139_code 16 = .ok (.dup, 1) := by decide +kernel
theorem own_dd_17 : decode jdk_42_method_139_code 17 = .ok (.iload_n 0, 1) := by decide +kernel
theorem own_dd_18 : decode jdk_42_method_139_code 18 = .ok (.invokestatic 1018, 3) := by decide +kernel
theorem own_dd_21 : decode jdk_42_method_139_code 21 = .ok (.iconst 0, 1) := by decide +kernel
theorem own_dd_22 : decode jdk_42_method_139_code 22 = .ok (.invokespecial 209, 3) := by decide +kernel
theorem own_dd_25 : decode jdk_42_method_139_code 25 = .ok (.areturn, 1) := by decide +kernel
theorem own_dd_26 : decode jdk_42_method_139_code 26 = .ok (.new 10, 3) := by decide +kernel
theorem own_dd_29 : decode jdk_42_method_139_code 29 = .ok (.dup, 1) := by decide +kernel
theorem own_dd_30 : decode jdk_42_method_139_code 30 = .ok (.iload_n 0, 1) := by decide +kernel
theorem own_dd_31 : decode jdk_42_method_139_code 31 = .ok (.invokestatic 1021, 3) := by decide +kernel
theorem own_dd_34 : decode jdk_42_method_139_code 34 = .ok (.iconst 1, 1) := by decide +kernel
theorem own_dd_35 : decode jdk_42_method_139_code 35 = .ok (.invokespecial 209, 3) := by decide +kernel
theorem own_dd_38 : decode jdk_42_method_139_code 38 = .ok (.areturn, 1) := by decide +kernel
theorem own_efd (m : MethodId) (x0 : Int32) : entryFrame m #[(.int x0)] 1 = mkF m 0 #[.val (.int x0)] [] := by first | (simp [entryFrame, mkF, argsToLocals, Value.category, maxLocals]; done) | rfl
theorem own_pd3 : parseMethodDescriptor "(C)Z" = some ⟨[.char], some .boolean⟩ := by decide +kernel
theorem own_pd4 : parseMethodDescriptor "(C)[B" = some ⟨[.char], some (.array .byte)⟩ := by decide +kernel
theorem own_pd5 : parseMethodDescriptor "([BB)V" = some ⟨[(.array .byte), .byte], none⟩ := by decide +kernel
theorem own_can_yes {x : Int32} (h : ¬ (255 : Int32) < x) : ¬ own_can x = (0 : Int32) := by
  unfold own_can; rw [if_neg h]; decide
set_option maxRecDepth 65536 in
set_option maxHeartbeats 40000000 in
theorem own_rm_valof (l : Launch) (Z : State) (a0 : Array Value) (hw : ∀ d ∈ tables_1, d.before a0 Z = true) (p1 : Int32) (G1 : Int32) (h0 : Heap) (n0 : Nat) (Z0 : n0 ≤ h0.size) (O2 : Sta Z h0 "java/lang/String" "COMPACT_STRINGS" "Z" (.int G1)) (P5 : ¬ G1 = (0 : Int32)) (hp : ¬ (255 : Int32) < p1) : own_Con l Z [] (⟨"java/lang/String", "valueOf", "(C)Ljava/lang/String;"⟩ : MethodName) jdk_42_method_139_code 1 (some (.object "java/lang/String")) ({ frames := 2, cells := 2, slots := 5, locals := 27 } : Room) #[(.int p1)] h0 (fun v h L => ∃ s : Addr, v = some (.ref s) ∧ Fr n0 L ∧ Keep h0 h [] ∧ n0 ≤ s ∧ h0.size ≤ s ∧ Exa Z h s "java/lang/String") := by
  refine own_body (plainFor_of_name own_pn_String) ?_
  intro p e s m below meth c s₁ X0 hx hby hml hret hlk hown hnm hZ e0
  have N0 := Fr.nil n0
  have K0 : Keep h0 h0 [] := Keep.refl _ _
  refine oS (u' := s₁.setTop (mkF m 0 #[.val (.int p1)] [])) (fun _ kst => castTop (own_efd m p1) kst) ?_
  obtain ⟨T33, X33, e33, st33⟩ := getS2 X0 hx hZ hown (host := "") (Or.inl (hw _ (List.mem_of_getElem? (i := 17) rfl))) Via.refl e0 (O2.ext (own_kext K0)) (g := (mkF m 0 #[.val (.int p1)] [])) rfl (hb hby own_dd_0)
  refine oS (u' := T33.setTop (mkF m 3 #[.val (.int p1)] [(.int G1)])) st33 ?_
  refine oS (u' := T33.setTop (mkF m 6 #[.val (.int p1)] [])) (fun _ kst => XS.ifNo X33.here hx rfl (hb hby own_dd_3) rfl ((if0 _ _).trans (feq P5).1) kst) ?_
  refine oS (u' := T33.setTop (mkF m 7 #[.val (.int p1)] [(.int p1)])) (fun _ kst => XS.iloadN X33.here hx rfl (hb hby own_dd_6) rfl kst) ?_
  obtain ⟨T34, X34, e34, st34⟩ := own_callSP X33 hx hZ (y := (⟨"java/lang/StringLatin1", "canEncode", "(C)Z"⟩ : MethodName)) hown (hw _ (List.mem_of_getElem? (i := 36) rfl)) (hw _ (List.mem_of_getElem? (i := 37) rfl)) (hw _ (List.mem_of_getElem? (i := 39) rfl)) (hw _ (List.mem_of_getElem? (i := 38) rfl)) (by decide) e33 (W := 0) (own_rm_can l Z a0 hw p1 h0 ) (by decide) (by decide) (g := (mkF m 7 #[.val (.int p1)] [(.int p1)])) rfl (by rw [hml]; rfl) (argsL := [(.int p1)]) (rest := []) (lenOf own_pd3 rfl) rfl (by show 2 * 0 + _ ≤ _; exact Nat.le_of_eq rfl) (hb hby own_dd_7) (by decide) (by decide)
  refine oS (u' := T34.setTop (mkF m 10 #[.val (.int p1)] [(.int (own_can p1))])) st34 ?_
  refine oS (u' := T34.setTop (mkF m 13 #[.val (.int p1)] [])) (fun _ kst => XS.ifNo X34.here hx rfl (hb hby own_dd_10) rfl ((if0 _ _).trans (feq (own_can_yes hp)).1) kst) ?_
  obtain ⟨T35, h35, X35, e35, E35, A35, D35, -, st35⟩ := newO X34 hx hZ hown (hw _ (List.mem_of_getElem? (i := 40) rfl)) (hw _ (List.mem_of_getElem? (i := 5) rfl)) (hw _ (List.mem_of_getElem? (i := 6) rfl)) e34 (g := (mkF m 13 #[.val (.int p1)] [])) rfl (hb hby own_dd_13) (by decide) (by decide)
  obtain ⟨b35, g35⟩ : ∃ z, z = h0.size := ⟨_, rfl⟩
  rw [← g35] at A35 D35 st35
  have gb_b35 : n0 ≤ b35 := Nat.le_trans Z0 (Nat.le_of_eq g35.symm)
  have sz_b35 : h0.size ≤ b35 := Nat.le_trans K0.1 (Nat.le_of_eq g35.symm)
  have K35 := K0.ext E35
  have Z35 := Nat.le_trans Z0 E35.1
  have f35_F_coder : Fld Z h35 b35 "java/lang/String" "coder" "B" (.int (0 : Int32)) := D35 (Or.inr (hw _ (List.mem_of_getElem? (i := 30) rfl))) (ty := .byte) (by decide)
  have f35_F_value : Fld Z h35 b35 "java/lang/String" "value" "[B" .null := D35 (Or.inr (hw _ (List.mem_of_getElem? (i := 32) rfl))) (ty := (.array .byte)) (by decide)
  refine oS (u' := T35.setTop (mkF m 16 #[.val (.int p1)] [(.ref b35)])) st35 ?_
  refine oS (u' := T35.setTop (mkF m 17 #[.val (.int p1)] [(.ref b35), (.ref b35)])) (fun _ kst => XS.dup X35.here hx rfl (hb hby own_dd_16) rfl rfl kst) ?_
  refine oS (u' := T35.setTop (mkF m 18 #[.val (.int p1)] [(.int p1), (.ref b35), (.ref b35)])) (fun _ kst => XS.iloadN X35.here hx rfl (hb hby own_dd_17) rfl kst) ?_
  obtain ⟨v36, T36, L36, X36, hQ36, st36⟩ := own_callS X35 hx hZ (y := (⟨"java/lang/StringLatin1", "toBytes", "(C)[B"⟩ : MethodName)) hown (hw _ (List.mem_of_getElem? (i := 41) rfl)) (hw _ (List.mem_of_getElem? (i := 42) rfl)) (hw _ (List.mem_of_getElem? (i := 43) rfl)) (hw _ (List.mem_of_getElem? (i := 38) rfl)) (by decide) e35 (W := 2) (own_rm_tob l Z a0 hw p1 h35 n0 Z35) (by decide) (by decide) (g := (mkF m 18 #[.val (.int p1)] [(.int p1), (.ref b35), (.ref b35)])) rfl (by rw [hml]; rfl) (argsL := [(.int p1)]) (rest := [(.ref b35), (.ref b35)]) (lenOf own_pd4 rfl) rfl (by show 2 * 0 + _ ≤ _; exact Nat.le_of_eq rfl) (hb hby own_dd_18) (by decide) (by decide)
  obtain ⟨b36, rfl, Nq36, Kq36, gb36, sb36⟩ := hQ36
  have f36_E_b35 := A35.keep Kq36
  have f36_F_b35_coder := f35_F_coder.keep Kq36 nin0
  have f36_F_b35_value := f35_F_value.keep Kq36 nin0
  have K36 := K35.trans Kq36 all0
  have Z36 := Nat.le_trans Z35 Kq36.1
  have N36 := Fr.app N0 Nq36
  refine oS (u' := T36.setTop (mkF m 21 #[.val (.int p1)] [(.ref b36), (.ref b35), (.ref b35)])) st36 ?_
  refine oS (u' := T36.setTop (mkF m 22 #[.val (.int p1)] [(.int (0 : Int32)), (.ref b36), (.ref b35), (.ref b35)])) (fun _ kst => XS.iconst X36.here hx rfl (hb hby own_dd_21) kst) ?_
  obtain ⟨v37, T37, L37, X37, hQ37, st37⟩ := own_callI X36 hx hZ (y := (⟨"java/lang/String", "<init>", "([BB)V"⟩ : MethodName)) rfl hown (hw _ (List.mem_of_getElem? (i := 44) rfl)) (hw _ (List.mem_of_getElem? (i := 45) rfl)) (hw _ (List.mem_of_getElem? (i := 46) rfl)) (hw _ (List.mem_of_getElem? (i := 6) rfl)) (by decide) rfl (W := 1) (own_rm_sinit l Z a0 hw b35 b36 T36.heap n0 Z36 f36_E_b35 f36_F_b35_value f36_F_b35_coder gb_b35) (by decide) (by decide) (g := (mkF m 22 #[.val (.int p1)] [(.int (0 : Int32)), (.ref b36), (.ref b35), (.ref b35)])) rfl (by rw [hml]; rfl) (a := b35) (argsL := [(.ref b36), (.int (0 : Int32))]) (rest := [(.ref b35)]) (lenOf own_pd5 rfl) rfl (by show 2 * 0 + _ ≤ _; exact Nat.le_of_eq rfl) (hb hby own_dd_22) (by decide) (by decide)
  obtain ⟨rfl, Nq37, Kq37⟩ := hQ37
  have f37_E_b35 := f36_E_b35.keep Kq37
  have K37 := K36.trans Kq37 (allS (Or.inr sz_b35) all0)
  have Z37 := Nat.le_trans Z36 Kq37.1
  have N37 := Fr.app N36 Nq37
  refine oS (u' := T37.setTop (mkF m 25 #[.val (.int p1)] [(.ref b35)])) st37 ?_
  refine own_retA X37 hx hlk hret rfl rfl (hb hby own_dd_25) ?_ (by decide) (by decide)
  show ∃ s : Addr, _
  exact ⟨b35, rfl, N37, K37, gb_b35, sz_b35, f37_E_b35⟩
def own_l2 (a b k : Int32) : Int32 := if (k &&& (2 : Int32)) = (0 : Int32) then b else a
def own_c2 (a b k : Int32) : Int32 := if (k &&& (4 : Int32)) = (0 : Int32) then b else a
theorem own_tri (x y : Int32) : (x < y ∧ ¬ y < x ∧ ¬ x = y) ∨ (x = y) ∨ (y < x ∧ ¬ x < y ∧ ¬ x = y) := by
  simp only [Int32.lt_iff_toInt_lt, ← Int32.toInt_inj]; omega
theorem own_irr (x : Int32) : ¬ x < x := by rw [Int32.lt_iff_toInt_lt]; omega
theorem own_icmp_lt {x y : Int32} (h : x < y) : own_icmp x y = -1 := by unfold own_icmp; rw [if_pos h]
theorem own_icmp_gt {x y : Int32} (h : ¬ x = y) (h' : ¬ x < y) : own_icmp x y = 1 := by unfold own_icmp; rw [if_neg h', if_neg h]
theorem own_icmp_eq (x : Int32) : own_icmp x x = 0 := by unfold own_icmp; rw [if_neg (own_irr x), if_pos rfl]
theorem own_es1 {a b c d : Int32} (h : a < c) : own_es a b c d = -1 := by unfold own_es; rw [if_pos h]
theorem own_es2 {a b c d : Int32} (h : ¬ a < c) (h' : c < a) : own_es a b c d = 1 := by unfold own_es; rw [if_neg h, if_pos h']
theorem own_es3 {a b d : Int32} (h : b < d) : own_es a b a d = -1 := by unfold own_es; rw [if_neg (own_irr a), if_neg (own_irr a), if_pos h]
theorem own_es4 {a b d : Int32} (h : ¬ b < d) (h' : d < b) : own_es a b a d = 1 := by unfold own_es; rw [if_neg (own_irr a), if_neg (own_irr a), if_neg h, if_pos h']
theorem own_es5 (a b : Int32) : own_es a b a b = 0 := by unfold own_es; rw [if_neg (own_irr a), if_neg (own_irr a), if_neg (own_irr b), if_neg (own_irr b)]
theorem own_cto1 (x y : Addr) {a b c d r : Int32} (h : own_icmp a c = r) (h' : ¬ r = 0) : own_cto x y a b c d = r := by unfold own_cto; rw [h, if_neg h']
theorem own_cto2 (x y : Addr) {a b d : Int32} : own_cto x y a b a d = own_icmp b d := by unfold own_cto; rw [own_icmp_eq, if_pos rfl]
theorem own_ok (u v x y : Addr) (a b c d : Int32) : own_sign (own_dto u v x y a b c d) = own_es a b c d := by
  unfold own_dto
  rcases own_tri a c with ⟨p, q, r⟩ | rfl | ⟨p, q, r⟩
  · rw [own_cto1 x y (own_icmp_lt p) (by decide), own_es1 p]; decide
  · rw [own_cto2]
    rcases own_tri b d with ⟨p, q, r⟩ | rfl | ⟨p, q, r⟩
    · rw [own_icmp_lt p, own_es3 p]; decide
    · rw [own_icmp_eq, own_es5]; decide
    · rw [own_icmp_gt r q, own_es4 q p]; decide
  · rw [own_cto1 x y (own_icmp_gt r q) (by decide), own_es2 q p]; decide
theorem own_anti (a b c d : Int32) : own_es c d a b = - own_es a b c d := by
  rcases own_tri a c with ⟨p, q, r⟩ | rfl | ⟨p, q, r⟩
  · rw [own_es1 p, own_es2 q p]; decide
  · rcases own_tri b d with ⟨p, q, r⟩ | rfl | ⟨p, q, r⟩
    · rw [own_es3 p, own_es4 q p]; decide
    · rw [own_es5]; decide
    · rw [own_es4 q p, own_es3 p]
  · rw [own_es2 q p, own_es1 p]
theorem own_hp (x y : Int32) : ∀ c ∈ ([own_c x, own_c y] : List Int32), ¬ c < 0 ∧ ¬ (255 : Int32) < c := by
  intro c hc
  simp only [List.mem_cons, List.not_mem_nil, or_false] at hc
  rcases hc with rfl | rfl
  · exact own_c_in x
  · exact own_c_in y
theorem own_vs (x y : Int32) (i : Nat) (hi : i < 2) : (own_up (own_up (fun _ => .int (0 : Int32)) 0 (.int (own_c x).toUInt32.toUInt16.toUInt32.toInt32)) 1 (.int (own_c y).toUInt32.toUInt16.toUInt32.toInt32)) i = (([own_c x, own_c y] : List Int32).map Value.int).getD i (.int 0) := by
  rw [own_c_idem, own_c_idem]
  have : i = 0 ∨ i = 1 := by omega
  rcases this with rfl | rfl <;> rfl
theorem own_vf (x y : Int32) (i : Nat) (hi : i < 2) : fits .char ((([own_c x, own_c y] : List Int32).map Value.int).getD i (.int 0)) = true := by
  have : i = 0 ∨ i = 1 := by omega
  rcases this with rfl | rfl
  · exact own_c_fits x
  · exact own_c_fits y
theorem own_ef0 (m : MethodId) (x0 : Int32) (x1 : Int32) (x2 : Int32) (x3 : Int32) (x4 : Int32) (x5 : Int32) : entryFrame m #[(.int x0), (.int x1), (.int x2), (.int x3), (.int x4), (.int x5)] maxLocals = mkF m 0 #[.val (.int x0), .val (.int x1), .val (.int x2), .val (.int x3), .val (.int x4), .val (.int x5), .unset, .unset, .unset, .unset, .unset, .unset, .unset, .unset, .unset, .unset, .unset, .unset] [] := by first | (simp [entryFrame, mkF, argsToLocals, Value.category, maxLocals]; done) | rfl
theorem own_pd6 : parseMethodDescriptor "([C)V" = some ⟨[(.array .char)], none⟩ := by decide +kernel
theorem own_pd7 : parseMethodDescriptor "(C)Ljava/lang/String;" = some ⟨[.char], some (.object "java/lang/String")⟩ := by decide +kernel
theorem own_pd8 : parseMethodDescriptor "(II)V" = some ⟨[.int, .int], none⟩ := by decide +kernel
theorem own_pd9 : parseMethodDescriptor "(Lcom/example/demitasse/demitasse/source/Diagnostic$Kind;Lcom/example/demitasse/demitasse/source/Position;Ljava/lang/String;)V" = some ⟨[(.object "com/example/demitasse/demitasse/source/Diagnostic$Kind"), (.object "com/example/demitasse/demitasse/source/Position"), (.object "java/lang/String")], none⟩ := by decide +kernel
theorem own_pd10 : parseMethodDescriptor "(IIII)I" = some ⟨[.int, .int, .int, .int], some .int⟩ := by decide +kernel
theorem own_pd11 : parseMethodDescriptor "(Lcom/example/demitasse/demitasse/source/Diagnostic;)I" = some ⟨[(.object "com/example/demitasse/demitasse/source/Diagnostic")], some .int⟩ := by decide +kernel
theorem own_pd12 : parseMethodDescriptor "(I)I" = some ⟨[.int], some .int⟩ := by decide +kernel
set_option maxRecDepth 65536 in
set_option maxHeartbeats 40000000 in
theorem own_law (l : Launch) (Z : State) (a0 : Array Value) (hw : ∀ d ∈ tables_1, d.before a0 Z = true) (p1 : Int32) (p2 : Int32) (p3 : Int32) (p4 : Int32) (p5 : Int32) (p6 : Int32) (G1 : Int32) (G3 : Value) (gE : Addr) (gR : Addr) (h0 : Heap) (n0 : Nat) (Z0 : n0 ≤ h0.size) (O2 : Sta Z h0 "java/lang/String" "COMPACT_STRINGS" "Z" (.int G1)) (P5 : ¬ G1 = (0 : Int32)) (O4 : Sta Z h0 "jdk/internal/util/Preconditions" "SIOOBE_FORMATTER" "Ljava/util/function/BiFunction;" G3) (rG3 : G3.isRef = true) (SE : Sta Z h0 "com/example/demitasse/demitasse/source/Diagnostic$Kind" "ERROR" "Lcom/example/demitasse/demitasse/source/Diagnostic$Kind;" (.ref gE)) (SR : Sta Z h0 "com/example/demitasse/demitasse/source/Diagnostic$Kind" "RUNTIME_ERROR" "Lcom/example/demitasse/demitasse/source/Diagnostic$Kind;" (.ref gR)) : own_Con l Z tables_1 x code maxLocals ret room_1 #[(.int p1), (.int p2), (.int p3), (.int p4), (.int p5), (.int p6)] h0 (fun v _ L => v = some (.int (1 : Int32)) ∧ Fr n0 L) := by
  refine own_body (plainFor_of_name own_pn_DiagnosticCompareToPinLaw) ?_
  intro p e s m below meth c s₁ X0 hx hby hml hret hlk hown hnm hZ e0
  have K0 : Keep h0 h0 [] := Keep.refl _ _
  have N0 := Fr.nil n0
  refine oS (u' := s₁.setTop (mkF m 0 #[.val (.int p1), .val (.int p2), .val (.int p3), .val (.int p4), .val (.int p5), .val (.int p6), .unset, .unset, .unset, .unset, .unset, .unset, .unset, .unset, .unset, .unset, .unset, .unset] [])) (fun _ kst => castTop (own_ef0 m p1 p2 p3 p4 p5 p6) kst) ?_
  refine oS (u' := s₁.setTop (mkF m 2 #[.val (.int p1), .val (.int p2), .val (.int p3), .val (.int p4), .val (.int p5), .val (.int p6), .unset, .unset, .unset, .unset, .unset, .unset, .unset, .unset, .unset, .unset, .unset, .unset] [(.int p5)])) (fun _ kst => XS.iload X0.here hx rfl (hb hby at_0) rfl kst) ?_
  refine oS (u' := s₁.setTop (mkF m 3 #[.val (.int p1), .val (.int p2), .val (.int p3), .val (.int p4), .val (.int p5), .val (.int p6), .unset, .unset, .unset, .unset, .unset, .unset, .unset, .unset, .unset, .unset, .unset, .unset] [(.int (2 : Int32)), (.int p5)])) (fun _ kst => XS.iconst X0.here hx rfl (hb hby at_2) kst) ?_
  refine oS (u' := s₁.setTop (mkF m 4 #[.val (.int p1), .val (.int p2), .val (.int p3), .val (.int p4), .val (.int p5), .val (.int p6), .unset, .unset, .unset, .unset, .unset, .unset, .unset, .unset, .unset, .unset, .unset, .unset] [(.int (p5 &&& (2 : Int32)))])) (fun _ kst => XS.iand X0.here hx rfl (hb hby at_3) rfl kst) ?_
  have km39 : ∀ tgt, Steps p.tables e below (s₁.setTop (mkF m 12 #[.val (.int p1), .val (.int p2), .val (.int p3), .val (.int p4), .val (.int p5), .val (.int p6), .unset, .unset, .unset, .unset, .unset, .unset, .unset, .unset, .unset, .unset, .unset, .unset] [(.int (if (p5 &&& (2 : Int32)) = (0 : Int32) then p3 else p1))])) tgt → Steps p.tables e below (s₁.setTop (mkF m 4 #[.val (.int p1), .val (.int p2), .val (.int p3), .val (.int p4), .val (.int p5), .val (.int p6), .unset, .unset, .unset, .unset, .unset, .unset, .unset, .unset, .unset, .unset, .unset, .unset] [(.int (p5 &&& (2 : Int32)))])) tgt := by
    intro tgt kst
    by_cases hc38 : (p5 &&& (2 : Int32)) = (0 : Int32)
    · rw [show (if (p5 &&& (2 : Int32)) = (0 : Int32) then p3 else p1) = p3 from if_pos hc38] at kst
      refine XS.ifYes X0.here hx rfl (pc0 := 4) (pc' := 11) rfl (hb hby at_4) rfl ((if0 _ _).trans (teq hc38).1) (by decide) (by decide) ?_
      show Steps p.tables e below (s₁.setTop (mkF m 11 #[.val (.int p1), .val (.int p2), .val (.int p3), .val (.int p4), .val (.int p5), .val (.int p6), .unset, .unset, .unset, .unset, .unset, .unset, .unset, .unset, .unset, .unset, .unset, .unset] [])) _
      refine XS.iloadN X0.here hx rfl (hb hby at_11) rfl ?_
      show Steps p.tables e below (s₁.setTop (mkF m 12 #[.val (.int p1), .val (.int p2), .val (.int p3), .val (.int p4), .val (.int p5), .val (.int p6), .unset, .unset, .unset, .unset, .unset, .unset, .unset, .unset, .unset, .unset, .unset, .unset] [(.int p3)])) _
      exact kst
    · rw [show (if (p5 &&& (2 : Int32)) = (0 : Int32) then p3 else p1) = p1 from if_neg hc38] at kst
      refine XS.ifNo X0.here hx rfl (hb hby at_4) rfl ((if0 _ _).trans (feq hc38).1) ?_
      show Steps p.tables e below (s₁.setTop (mkF m 7 #[.val (.int p1), .val (.int p2), .val (.int p3), .val (.int p4), .val (.int p5), .val (.int p6), .unset, .unset, .unset, .unset, .unset, .unset, .unset, .unset, .unset, .unset, .unset, .unset] [])) _
      refine XS.iloadN X0.here hx rfl (hb hby at_7) rfl ?_
      show Steps p.tables e below (s₁.setTop (mkF m 8 #[.val (.int p1), .val (.int p2), .val (.int p3), .val (.int p4), .val (.int p5), .val (.int p6), .unset, .unset, .unset, .unset, .unset, .unset, .unset, .unset, .unset, .unset, .unset, .unset] [(.int p1)])) _
      refine XS.goto X0.here hx rfl (pc0 := 8) (pc' := 12) rfl (hb hby at_8) (by decide) (by decide) ?_
      show Steps p.tables e below (s₁.setTop (mkF m 12 #[.val (.int p1), .val (.int p2), .val (.int p3), .val (.int p4), .val (.int p5), .val (.int p6), .unset, .unset, .unset, .unset, .unset, .unset, .unset, .unset, .unset, .unset, .unset, .unset] [(.int p1)])) _
      exact kst
  refine oS (u' := s₁.setTop (mkF m 12 #[.val (.int p1), .val (.int p2), .val (.int p3), .val (.int p4), .val (.int p5), .val (.int p6), .unset, .unset, .unset, .unset, .unset, .unset, .unset, .unset, .unset, .unset, .unset, .unset] [(.int (own_l2 p1 p3 p5))])) km39 ?_
  refine oS (u' := s₁.setTop (mkF m 14 #[.val (.int p1), .val (.int p2), .val (.int p3), .val (.int p4), .val (.int p5), .val (.int p6), .val (.int (own_l2 p1 p3 p5)), .unset, .unset, .unset, .unset, .unset, .unset, .unset, .unset, .unset, .unset, .unset] [])) (fun _ kst => XS.istore X0.here hx rfl (hb hby at_12) rfl (l' := #[.val (.int p1), .val (.int p2), .val (.int p3), .val (.int p4), .val (.int p5), .val (.int p6), .val (.int (own_l2 p1 p3 p5)), .unset, .unset, .unset, .unset, .unset, .unset, .unset, .unset, .unset, .unset, .unset]) rfl kst) ?_
  refine oS (u' := s₁.setTop (mkF m 16 #[.val (.int p1), .val (.int p2), .val (.int p3), .val (.int p4), .val (.int p5), .val (.int p6), .val (.int (own_l2 p1 p3 p5)), .unset, .unset, .unset, .unset, .unset, .unset, .unset, .unset, .unset, .unset, .unset] [(.int p5)])) (fun _ kst => XS.iload X0.here hx rfl (hb hby at_14) rfl kst) ?_
  refine oS (u' := s₁.setTop (mkF m 17 #[.val (.int p1), .val (.int p2), .val (.int p3), .val (.int p4), .val (.int p5), .val (.int p6), .val (.int (own_l2 p1 p3 p5)), .unset, .unset, .unset, .unset, .unset, .unset, .unset, .unset, .unset, .unset, .unset] [(.int (4 : Int32)), (.int p5)])) (fun _ kst => XS.iconst X0.here hx rfl (hb hby at_16) kst) ?_
  refine oS (u' := s₁.setTop (mkF m 18 #[.val (.int p1), .val (.int p2), .val (.int p3), .val (.int p4), .val (.int p5), .val (.int p6), .val (.int (own_l2 p1 p3 p5)), .unset, .unset, .unset, .unset, .unset, .unset, .unset, .unset, .unset, .unset, .unset] [(.int (p5 &&& (4 : Int32)))])) (fun _ kst => XS.iand X0.here hx rfl (hb hby at_17) rfl kst) ?_
  have km41 : ∀ tgt, Steps p.tables e below (s₁.setTop (mkF m 26 #[.val (.int p1), .val (.int p2), .val (.int p3), .val (.int p4), .val (.int p5), .val (.int p6), .val (.int (own_l2 p1 p3 p5)), .unset, .unset, .unset, .unset, .unset, .unset, .unset, .unset, .unset, .unset, .unset] [(.int (if (p5 &&& (4 : Int32)) = (0 : Int32) then p4 else p2))])) tgt → Steps p.tables e below (s₁.setTop (mkF m 18 #[.val (.int p1), .val (.int p2), .val (.int p3), .val (.int p4), .val (.int p5), .val (.int p6), .val (.int (own_l2 p1 p3 p5)), .unset, .unset, .unset, .unset, .unset, .unset, .unset, .unset, .unset, .unset, .unset] [(.int (p5 &&& (4 : Int32)))])) tgt := by
    intro tgt kst
    by_cases hc40 : (p5 &&& (4 : Int32)) = (0 : Int32)
    · rw [show (if (p5 &&& (4 : Int32)) = (0 : Int32) then p4 else p2) = p4 from if_pos hc40] at kst
      refine XS.ifYes X0.here hx rfl (pc0 := 18) (pc' := 25) rfl (hb hby at_18) rfl ((if0 _ _).trans (teq hc40).1) (by decide) (by decide) ?_
      show Steps p.tables e below (s₁.setTop (mkF m 25 #[.val (.int p1), .val (.int p2), .val (.int p3), .val (.int p4), .val (.int p5), .val (.int p6), .val (.int (own_l2 p1 p3 p5)), .unset, .unset, .unset, .unset, .unset, .unset, .unset, .unset, .unset, .unset, .unset] [])) _
      refine XS.iloadN X0.here hx rfl (hb hby at_25) rfl ?_
      show Steps p.tables e below (s₁.setTop (mkF m 26 #[.val (.int p1), .val (.int p2), .val (.int p3), .val (.int p4), .val (.int p5), .val (.int p6), .val (.int (own_l2 p1 p3 p5)), .unset, .unset, .unset, .unset, .unset, .unset, .unset, .unset, .unset, .unset, .unset] [(.int p4)])) _
      exact kst
    · rw [show (if (p5 &&& (4 : Int32)) = (0 : Int32) then p4 else p2) = p2 from if_neg hc40] at kst
      refine XS.ifNo X0.here hx rfl (hb hby at_18) rfl ((if0 _ _).trans (feq hc40).1) ?_
      show Steps p.tables e below (s₁.setTop (mkF m 21 #[.val (.int p1), .val (.int p2), .val (.int p3), .val (.int p4), .val (.int p5), .val (.int p6), .val (.int (own_l2 p1 p3 p5)), .unset, .unset, .unset, .unset, .unset, .unset, .unset, .unset, .unset, .unset, .unset] [])) _
      refine XS.iloadN X0.here hx rfl (hb hby at_21) rfl ?_
      show Steps p.tables e below (s₁.setTop (mkF m 22 #[.val (.int p1), .val (.int p2), .val (.int p3), .val (.int p4), .val (.int p5), .val (.int p6), .val (.int (own_l2 p1 p3 p5)), .unset, .unset, .unset, .unset, .unset, .unset, .unset, .unset, .unset, .unset, .unset] [(.int p2)])) _
      refine XS.goto X0.here hx rfl (pc0 := 22) (pc' := 26) rfl (hb hby at_22) (by decide) (by decide) ?_
      show Steps p.tables e below (s₁.setTop (mkF m 26 #[.val (.int p1), .val (.int p2), .val (.int p3), .val (.int p4), .val (.int p5), .val (.int p6), .val (.int (own_l2 p1 p3 p5)), .unset, .unset, .unset, .unset, .unset, .unset, .unset, .unset, .unset, .unset, .unset] [(.int p2)])) _
      exact kst
  refine oS (u' := s₁.setTop (mkF m 26 #[.val (.int p1), .val (.int p2), .val (.int p3), .val (.int p4), .val (.int p5), .val (.int p6), .val (.int (own_l2 p1 p3 p5)), .unset, .unset, .unset, .unset, .unset, .unset, .unset, .unset, .unset, .unset, .unset] [(.int (own_c2 p2 p4 p5))])) km41 ?_
  refine oS (u' := s₁.setTop (mkF m 28 #[.val (.int p1), .val (.int p2), .val (.int p3), .val (.int p4), .val (.int p5), .val (.int p6), .val (.int (own_l2 p1 p3 p5)), .val (.int (own_c2 p2 p4 p5)), .unset, .unset, .unset, .unset, .unset, .unset, .unset, .unset, .unset, .unset] [])) (fun _ kst => XS.istore X0.here hx rfl (hb hby at_26) rfl (l' := #[.val (.int p1), .val (.int p2), .val (.int p3), .val (.int p4), .val (.int p5), .val (.int p6), .val (.int (own_l2 p1 p3 p5)), .val (.int (own_c2 p2 p4 p5)), .unset, .unset, .unset, .unset, .unset, .unset, .unset, .unset, .unset, .unset]) rfl kst) ?_
  refine oS (u' := s₁.setTop (mkF m 30 #[.val (.int p1), .val (.int p2), .val (.int p3), .val (.int p4), .val (.int p5), .val (.int p6), .val (.int (own_l2 p1 p3 p5)), .val (.int (own_c2 p2 p4 p5)), .unset, .unset, .unset, .unset, .unset, .unset, .unset, .unset, .unset, .unset] [(.int p5)])) (fun _ kst => XS.iload X0.here hx rfl (hb hby at_28) rfl kst) ?_
  refine oS (u' := s₁.setTop (mkF m 31 #[.val (.int p1), .val (.int p2), .val (.int p3), .val (.int p4), .val (.int p5), .val (.int p6), .val (.int (own_l2 p1 p3 p5)), .val (.int (own_c2 p2 p4 p5)), .unset, .unset, .unset, .unset, .unset, .unset, .unset, .unset, .unset, .unset] [(.int (1 : Int32)), (.int p5)])) (fun _ kst => XS.iconst X0.here hx rfl (hb hby at_30) kst) ?_
  refine oS (u' := s₁.setTop (mkF m 32 #[.val (.int p1), .val (.int p2), .val (.int p3), .val (.int p4), .val (.int p5), .val (.int p6), .val (.int (own_l2 p1 p3 p5)), .val (.int (own_c2 p2 p4 p5)), .unset, .unset, .unset, .unset, .unset, .unset, .unset, .unset, .unset, .unset] [(.int (p5 &&& (1 : Int32)))])) (fun _ kst => XS.iand X0.here hx rfl (hb hby at_31) rfl kst) ?_
  refine oCA X0 e0 (f := fun z44 => (mkF m 44 #[.val (.int p1), .val (.int p2), .val (.int p3), .val (.int p4), .val (.int p5), .val (.int p6), .val (.int (own_l2 p1 p3 p5)), .val (.int (own_c2 p2 p4 p5)), .unset, .unset, .unset, .unset, .unset, .unset, .unset, .unset, .unset, .unset] [(.ref z44)])) (fun z44 T44 X44 e44 => ?_) (fun cut44 => ?_)
  · show oF p e below s _ _ _ (T44.setTop (mkF m 44 #[.val (.int p1), .val (.int p2), .val (.int p3), .val (.int p4), .val (.int p5), .val (.int p6), .val (.int (own_l2 p1 p3 p5)), .val (.int (own_c2 p2 p4 p5)), .unset, .unset, .unset, .unset, .unset, .unset, .unset, .unset, .unset, .unset] [(.ref z44)]))
    refine oS (u' := T44.setTop (mkF m 46 #[.val (.int p1), .val (.int p2), .val (.int p3), .val (.int p4), .val (.int p5), .val (.int p6), .val (.int (own_l2 p1 p3 p5)), .val (.int (own_c2 p2 p4 p5)), .val (.ref z44), .unset, .unset, .unset, .unset, .unset, .unset, .unset, .unset, .unset] [])) (fun _ kst => XS.astore X44.here hx rfl (hb hby at_44) rfl rfl (l' := #[.val (.int p1), .val (.int p2), .val (.int p3), .val (.int p4), .val (.int p5), .val (.int p6), .val (.int (own_l2 p1 p3 p5)), .val (.int (own_c2 p2 p4 p5)), .val (.ref z44), .unset, .unset, .unset, .unset, .unset, .unset, .unset, .unset, .unset]) rfl kst) ?_
    refine oS (u' := T44.setTop (mkF m 48 #[.val (.int p1), .val (.int p2), .val (.int p3), .val (.int p4), .val (.int p5), .val (.int p6), .val (.int (own_l2 p1 p3 p5)), .val (.int (own_c2 p2 p4 p5)), .val (.ref z44), .unset, .unset, .unset, .unset, .unset, .unset, .unset, .unset, .unset] [(.int p5)])) (fun _ kst => XS.iload X44.here hx rfl (hb hby at_46) rfl kst) ?_
    refine oS (u' := T44.setTop (mkF m 50 #[.val (.int p1), .val (.int p2), .val (.int p3), .val (.int p4), .val (.int p5), .val (.int p6), .val (.int (own_l2 p1 p3 p5)), .val (.int (own_c2 p2 p4 p5)), .val (.ref z44), .unset, .unset, .unset, .unset, .unset, .unset, .unset, .unset, .unset] [(.int (8 : Int32)), (.int p5)])) (fun _ kst => XS.bipush X44.here hx rfl (hb hby at_48) kst) ?_
    refine oS (u' := T44.setTop (mkF m 51 #[.val (.int p1), .val (.int p2), .val (.int p3), .val (.int p4), .val (.int p5), .val (.int p6), .val (.int (own_l2 p1 p3 p5)), .val (.int (own_c2 p2 p4 p5)), .val (.ref z44), .unset, .unset, .unset, .unset, .unset, .unset, .unset, .unset, .unset] [(.int (p5 &&& (8 : Int32)))])) (fun _ kst => XS.iand X44.here hx rfl (hb hby at_50) rfl kst) ?_
    refine oCA X44 e44 (f := fun z47 => (mkF m 63 #[.val (.int p1), .val (.int p2), .val (.int p3), .val (.int p4), .val (.int p5), .val (.int p6), .val (.int (own_l2 p1 p3 p5)), .val (.int (own_c2 p2 p4 p5)), .val (.ref z44), .unset, .unset, .unset, .unset, .unset, .unset, .unset, .unset, .unset] [(.ref z47)])) (fun z47 T47 X47 e47 => ?_) (fun cut47 => ?_)
    · show oF p e below s _ _ _ (T47.setTop (mkF m 63 #[.val (.int p1), .val (.int p2), .val (.int p3), .val (.int p4), .val (.int p5), .val (.int p6), .val (.int (own_l2 p1 p3 p5)), .val (.int (own_c2 p2 p4 p5)), .val (.ref z44), .unset, .unset, .unset, .unset, .unset, .unset, .unset, .unset, .unset] [(.ref z47)]))
      refine oS (u' := T47.setTop (mkF m 65 #[.val (.int p1), .val (.int p2), .val (.int p3), .val (.int p4), .val (.int p5), .val (.int p6), .val (.int (own_l2 p1 p3 p5)), .val (.int (own_c2 p2 p4 p5)), .val (.ref z44), .val (.ref z47), .unset, .unset, .unset, .unset, .unset, .unset, .unset, .unset] [])) (fun _ kst => XS.astore X47.here hx rfl (hb hby at_63) rfl rfl (l' := #[.val (.int p1), .val (.int p2), .val (.int p3), .val (.int p4), .val (.int p5), .val (.int p6), .val (.int (own_l2 p1 p3 p5)), .val (.int (own_c2 p2 p4 p5)), .val (.ref z44), .val (.ref z47), .unset, .unset, .unset, .unset, .unset, .unset, .unset, .unset]) rfl kst) ?_
      refine oS (u' := T47.setTop (mkF m 66 #[.val (.int p1), .val (.int p2), .val (.int p3), .val (.int p4), .val (.int p5), .val (.int p6), .val (.int (own_l2 p1 p3 p5)), .val (.int (own_c2 p2 p4 p5)), .val (.ref z44), .val (.ref z47), .unset, .unset, .unset, .unset, .unset, .unset, .unset, .unset] [(.int (2 : Int32))])) (fun _ kst => XS.iconst X47.here hx rfl (hb hby at_65) kst) ?_
      obtain ⟨T48, h48, X48, e48, E48, A48, st48⟩ := own_newP X47 hx hZ (hw _ (List.mem_of_getElem? (i := 3) rfl)) e47 (g := (mkF m 66 #[.val (.int p1), .val (.int p2), .val (.int p3), .val (.int p4), .val (.int p5), .val (.int p6), .val (.int (own_l2 p1 p3 p5)), .val (.int (own_c2 p2 p4 p5)), .val (.ref z44), .val (.ref z47), .unset, .unset, .unset, .unset, .unset, .unset, .unset, .unset] [(.int (2 : Int32))])) rfl (hb hby at_66) rfl (k := 2) (by decide) (cap := 2) (by decide) (by decide) (by decide) (by decide)
      obtain ⟨b48, g48⟩ : ∃ z, z = h0.size := ⟨_, rfl⟩
      rw [← g48] at A48 st48
      have gb_b48 : n0 ≤ b48 := Nat.le_trans Z0 (Nat.le_of_eq g48.symm)
      have sz_b48 : h0.size ≤ b48 := Nat.le_trans K0.1 (Nat.le_of_eq g48.symm)
      have K48 := K0.ext E48
      have Z48 := Nat.le_trans Z0 E48.1
      have V48 : own_Ar Z h48 b48 .char 2 (fun _ => .int (0 : Int32)) := A48
      refine oS (u' := T48.setTop (mkF m 68 #[.val (.int p1), .val (.int p2), .val (.int p3), .val (.int p4), .val (.int p5), .val (.int p6), .val (.int (own_l2 p1 p3 p5)), .val (.int (own_c2 p2 p4 p5)), .val (.ref z44), .val (.ref z47), .unset, .unset, .unset, .unset, .unset, .unset, .unset, .unset] [(.ref b48)])) st48 ?_
      refine oS (u' := T48.setTop (mkF m 70 #[.val (.int p1), .val (.int p2), .val (.int p3), .val (.int p4), .val (.int p5), .val (.int p6), .val (.int (own_l2 p1 p3 p5)), .val (.int (own_c2 p2 p4 p5)), .val (.ref z44), .val (.ref z47), .val (.ref b48), .unset, .unset, .unset, .unset, .unset, .unset, .unset] [])) (fun _ kst => XS.astore X48.here hx rfl (hb hby at_68) rfl rfl (l' := #[.val (.int p1), .val (.int p2), .val (.int p3), .val (.int p4), .val (.int p5), .val (.int p6), .val (.int (own_l2 p1 p3 p5)), .val (.int (own_c2 p2 p4 p5)), .val (.ref z44), .val (.ref z47), .val (.ref b48), .unset, .unset, .unset, .unset, .unset, .unset, .unset]) rfl kst) ?_
      refine oS (u' := T48.setTop (mkF m 72 #[.val (.int p1), .val (.int p2), .val (.int p3), .val (.int p4), .val (.int p5), .val (.int p6), .val (.int (own_l2 p1 p3 p5)), .val (.int (own_c2 p2 p4 p5)), .val (.ref z44), .val (.ref z47), .val (.ref b48), .unset, .unset, .unset, .unset, .unset, .unset, .unset] [(.ref b48)])) (fun _ kst => XS.aload X48.here hx rfl (hb hby at_70) rfl rfl kst) ?_
      refine oS (u' := T48.setTop (mkF m 73 #[.val (.int p1), .val (.int p2), .val (.int p3), .val (.int p4), .val (.int p5), .val (.int p6), .val (.int (own_l2 p1 p3 p5)), .val (.int (own_c2 p2 p4 p5)), .val (.ref z44), .val (.ref z47), .val (.ref b48), .unset, .unset, .unset, .unset, .unset, .unset, .unset] [(.int (0 : Int32)), (.ref b48)])) (fun _ kst => XS.iconst X48.here hx rfl (hb hby at_72) kst) ?_
      refine oS (u' := T48.setTop (mkF m 75 #[.val (.int p1), .val (.int p2), .val (.int p3), .val (.int p4), .val (.int p5), .val (.int p6), .val (.int (own_l2 p1 p3 p5)), .val (.int (own_c2 p2 p4 p5)), .val (.ref z44), .val (.ref z47), .val (.ref b48), .unset, .unset, .unset, .unset, .unset, .unset, .unset] [(.int p6), (.int (0 : Int32)), (.ref b48)])) (fun _ kst => XS.iload X48.here hx rfl (hb hby at_73) rfl kst) ?_
      refine oS (u' := T48.setTop (mkF m 78 #[.val (.int p1), .val (.int p2), .val (.int p3), .val (.int p4), .val (.int p5), .val (.int p6), .val (.int (own_l2 p1 p3 p5)), .val (.int (own_c2 p2 p4 p5)), .val (.ref z44), .val (.ref z47), .val (.ref b48), .unset, .unset, .unset, .unset, .unset, .unset, .unset] [(.int (255 : Int32)), (.int p6), (.int (0 : Int32)), (.ref b48)])) (fun _ kst => XS.sipush X48.here hx rfl (hb hby at_75) kst) ?_
      refine oS (u' := T48.setTop (mkF m 79 #[.val (.int p1), .val (.int p2), .val (.int p3), .val (.int p4), .val (.int p5), .val (.int p6), .val (.int (own_l2 p1 p3 p5)), .val (.int (own_c2 p2 p4 p5)), .val (.ref z44), .val (.ref z47), .val (.ref b48), .unset, .unset, .unset, .unset, .unset, .unset, .unset] [(.int (p6 &&& (255 : Int32))), (.int (0 : Int32)), (.ref b48)])) (fun _ kst => XS.iand X48.here hx rfl (hb hby at_78) rfl kst) ?_
      refine oS (u' := T48.setTop (mkF m 80 #[.val (.int p1), .val (.int p2), .val (.int p3), .val (.int p4), .val (.int p5), .val (.int p6), .val (.int (own_l2 p1 p3 p5)), .val (.int (own_c2 p2 p4 p5)), .val (.ref z44), .val (.ref z47), .val (.ref b48), .unset, .unset, .unset, .unset, .unset, .unset, .unset] [(.int (own_c p6)), (.int (0 : Int32)), (.ref b48)])) (fun _ kst => XS.i2c X48.here hx rfl (hb hby at_79) rfl kst) ?_
      obtain ⟨T49, h49, X49, e49, W49, st49⟩ := own_stC X48 hx hZ e48 V48 (k := 0) (by decide) (by decide) (g := (mkF m 80 #[.val (.int p1), .val (.int p2), .val (.int p3), .val (.int p4), .val (.int p5), .val (.int p6), .val (.int (own_l2 p1 p3 p5)), .val (.int (own_c2 p2 p4 p5)), .val (.ref z44), .val (.ref z47), .val (.ref b48), .unset, .unset, .unset, .unset, .unset, .unset, .unset] [(.int (own_c p6)), (.int (0 : Int32)), (.ref b48)])) rfl rfl (hb hby at_80)
      have f49_A_b48 := V48.set W49 (by decide)
      have K49 := K48.wr W49 (Or.inr sz_b48)
      have Z49 := Nat.le_trans Z48 (Keep.of_wr W49).1
      have N49 := Fr.snoc X49 N0 gb_b48
      refine oS (u' := T49.setTop (mkF m 81 #[.val (.int p1), .val (.int p2), .val (.int p3), .val (.int p4), .val (.int p5), .val (.int p6), .val (.int (own_l2 p1 p3 p5)), .val (.int (own_c2 p2 p4 p5)), .val (.ref z44), .val (.ref z47), .val (.ref b48), .unset, .unset, .unset, .unset, .unset, .unset, .unset] [])) st49 ?_
      refine oS (u' := T49.setTop (mkF m 83 #[.val (.int p1), .val (.int p2), .val (.int p3), .val (.int p4), .val (.int p5), .val (.int p6), .val (.int (own_l2 p1 p3 p5)), .val (.int (own_c2 p2 p4 p5)), .val (.ref z44), .val (.ref z47), .val (.ref b48), .unset, .unset, .unset, .unset, .unset, .unset, .unset] [(.ref b48)])) (fun _ kst => XS.aload X49.here hx rfl (hb hby at_81) rfl rfl kst) ?_
      refine oS (u' := T49.setTop (mkF m 84 #[.val (.int p1), .val (.int p2), .val (.int p3), .val (.int p4), .val (.int p5), .val (.int p6), .val (.int (own_l2 p1 p3 p5)), .val (.int (own_c2 p2 p4 p5)), .val (.ref z44), .val (.ref z47), .val (.ref b48), .unset, .unset, .unset, .unset, .unset, .unset, .unset] [(.int (1 : Int32)), (.ref b48)])) (fun _ kst => XS.iconst X49.here hx rfl (hb hby at_83) kst) ?_
      refine oS (u' := T49.setTop (mkF m 86 #[.val (.int p1), .val (.int p2), .val (.int p3), .val (.int p4), .val (.int p5), .val (.int p6), .val (.int (own_l2 p1 p3 p5)), .val (.int (own_c2 p2 p4 p5)), .val (.ref z44), .val (.ref z47), .val (.ref b48), .unset, .unset, .unset, .unset, .unset, .unset, .unset] [(.int p6), (.int (1 : Int32)), (.ref b48)])) (fun _ kst => XS.iload X49.here hx rfl (hb hby at_84) rfl kst) ?_
      refine oS (u' := T49.setTop (mkF m 88 #[.val (.int p1), .val (.int p2), .val (.int p3), .val (.int p4), .val (.int p5), .val (.int p6), .val (.int (own_l2 p1 p3 p5)), .val (.int (own_c2 p2 p4 p5)), .val (.ref z44), .val (.ref z47), .val (.ref b48), .unset, .unset, .unset, .unset, .unset, .unset, .unset] [(.int (8 : Int32)), (.int p6), (.int (1 : Int32)), (.ref b48)])) (fun _ kst => XS.bipush X49.here hx rfl (hb hby at_86) kst) ?_
      refine oS (u' := T49.setTop (mkF m 89 #[.val (.int p1), .val (.int p2), .val (.int p3), .val (.int p4), .val (.int p5), .val (.int p6), .val (.int (own_l2 p1 p3 p5)), .val (.int (own_c2 p2 p4 p5)), .val (.ref z44), .val (.ref z47), .val (.ref b48), .unset, .unset, .unset, .unset, .unset, .unset, .unset] [(.int (Jvm.Free.XT.ushr p6 (8 : Int32))), (.int (1 : Int32)), (.ref b48)])) (fun _ kst => XS.iushr X49.here hx rfl (hb hby at_88) rfl kst) ?_
      refine oS (u' := T49.setTop (mkF m 92 #[.val (.int p1), .val (.int p2), .val (.int p3), .val (.int p4), .val (.int p5), .val (.int p6), .val (.int (own_l2 p1 p3 p5)), .val (.int (own_c2 p2 p4 p5)), .val (.ref z44), .val (.ref z47), .val (.ref b48), .unset, .unset, .unset, .unset, .unset, .unset, .unset] [(.int (255 : Int32)), (.int (Jvm.Free.XT.ushr p6 (8 : Int32))), (.int (1 : Int32)), (.ref b48)])) (fun _ kst => XS.sipush X49.here hx rfl (hb hby at_89) kst) ?_
      refine oS (u' := T49.setTop (mkF m 93 #[.val (.int p1), .val (.int p2), .val (.int p3), .val (.int p4), .val (.int p5), .val (.int p6), .val (.int (own_l2 p1 p3 p5)), .val (.int (own_c2 p2 p4 p5)), .val (.ref z44), .val (.ref z47), .val (.ref b48), .unset, .unset, .unset, .unset, .unset, .unset, .unset] [(.int ((Jvm.Free.XT.ushr p6 (8 : Int32)) &&& (255 : Int32))), (.int (1 : Int32)), (.ref b48)])) (fun _ kst => XS.iand X49.here hx rfl (hb hby at_92) rfl kst) ?_
      refine oS (u' := T49.setTop (mkF m 94 #[.val (.int p1), .val (.int p2), .val (.int p3), .val (.int p4), .val (.int p5), .val (.int p6), .val (.int (own_l2 p1 p3 p5)), .val (.int (own_c2 p2 p4 p5)), .val (.ref z44), .val (.ref z47), .val (.ref b48), .unset, .unset, .unset, .unset, .unset, .unset, .unset] [(.int (own_c (Jvm.Free.XT.ushr p6 (8 : Int32)))), (.int (1 : Int32)), (.ref b48)])) (fun _ kst => XS.i2c X49.here hx rfl (hb hby at_93) rfl kst) ?_
      obtain ⟨T50, h50, X50, e50, W50, st50⟩ := own_stC X49 hx hZ e49 f49_A_b48 (k := 1) (by decide) (by decide) (g := (mkF m 94 #[.val (.int p1), .val (.int p2), .val (.int p3), .val (.int p4), .val (.int p5), .val (.int p6), .val (.int (own_l2 p1 p3 p5)), .val (.int (own_c2 p2 p4 p5)), .val (.ref z44), .val (.ref z47), .val (.ref b48), .unset, .unset, .unset, .unset, .unset, .unset, .unset] [(.int (own_c (Jvm.Free.XT.ushr p6 (8 : Int32)))), (.int (1 : Int32)), (.ref b48)])) rfl rfl (hb hby at_94)
      have f50_A_b48 := f49_A_b48.set W50 (by decide)
      have K50 := K49.wr W50 (Or.inr sz_b48)
      have Z50 := Nat.le_trans Z49 (Keep.of_wr W50).1
      have N50 := Fr.snoc X50 N49 gb_b48
      refine oS (u' := T50.setTop (mkF m 95 #[.val (.int p1), .val (.int p2), .val (.int p3), .val (.int p4), .val (.int p5), .val (.int p6), .val (.int (own_l2 p1 p3 p5)), .val (.int (own_c2 p2 p4 p5)), .val (.ref z44), .val (.ref z47), .val (.ref b48), .unset, .unset, .unset, .unset, .unset, .unset, .unset] [])) st50 ?_
      obtain ⟨T51, h51, X51, e51, E51, A51, D51, -, st51⟩ := newO X50 hx hZ hown (hw _ (List.mem_of_getElem? (i := 4) rfl)) (hw _ (List.mem_of_getElem? (i := 5) rfl)) (hw _ (List.mem_of_getElem? (i := 6) rfl)) e50 (g := (mkF m 95 #[.val (.int p1), .val (.int p2), .val (.int p3), .val (.int p4), .val (.int p5), .val (.int p6), .val (.int (own_l2 p1 p3 p5)), .val (.int (own_c2 p2 p4 p5)), .val (.ref z44), .val (.ref z47), .val (.ref b48), .unset, .unset, .unset, .unset, .unset, .unset, .unset] [])) rfl (hb hby at_95) (by decide) (by decide)
      obtain ⟨b51, g51⟩ : ∃ z, z = h50.size := ⟨_, rfl⟩
      rw [← g51] at A51 D51 st51
      have ne_b48_b51 : b48 ≠ b51 := Nat.ne_of_lt (Nat.lt_of_lt_of_le (f50_A_b48).lt (Nat.le_of_eq g51.symm))
      have f51_A_b48 := f50_A_b48.ext E51
      have gb_b51 : n0 ≤ b51 := Nat.le_trans Z50 (Nat.le_of_eq g51.symm)
      have sz_b51 : h0.size ≤ b51 := Nat.le_trans K50.1 (Nat.le_of_eq g51.symm)
      have K51 := K50.ext E51
      have Z51 := Nat.le_trans Z50 E51.1
      have f51_F_coder : Fld Z h51 b51 "java/lang/String" "coder" "B" (.int (0 : Int32)) := D51 (Or.inr (hw _ (List.mem_of_getElem? (i := 30) rfl))) (ty := .byte) (by decide)
      have f51_F_value : Fld Z h51 b51 "java/lang/String" "value" "[B" .null := D51 (Or.inr (hw _ (List.mem_of_getElem? (i := 32) rfl))) (ty := (.array .byte)) (by decide)
      refine oS (u' := T51.setTop (mkF m 98 #[.val (.int p1), .val (.int p2), .val (.int p3), .val (.int p4), .val (.int p5), .val (.int p6), .val (.int (own_l2 p1 p3 p5)), .val (.int (own_c2 p2 p4 p5)), .val (.ref z44), .val (.ref z47), .val (.ref b48), .unset, .unset, .unset, .unset, .unset, .unset, .unset] [(.ref b51)])) st51 ?_
      refine oS (u' := T51.setTop (mkF m 99 #[.val (.int p1), .val (.int p2), .val (.int p3), .val (.int p4), .val (.int p5), .val (.int p6), .val (.int (own_l2 p1 p3 p5)), .val (.int (own_c2 p2 p4 p5)), .val (.ref z44), .val (.ref z47), .val (.ref b48), .unset, .unset, .unset, .unset, .unset, .unset, .unset] [(.ref b51), (.ref b51)])) (fun _ kst => XS.dup X51.here hx rfl (hb hby at_98) rfl rfl kst) ?_
      refine oS (u' := T51.setTop (mkF m 101 #[.val (.int p1), .val (.int p2), .val (.int p3), .val (.int p4), .val (.int p5), .val (.int p6), .val (.int (own_l2 p1 p3 p5)), .val (.int (own_c2 p2 p4 p5)), .val (.ref z44), .val (.ref z47), .val (.ref b48), .unset, .unset, .unset, .unset, .unset, .unset, .unset] [(.ref b48), (.ref b51), (.ref b51)])) (fun _ kst => XS.aload X51.here hx rfl (hb hby at_99) rfl rfl kst) ?_
      obtain ⟨kc52, Kc52⟩ := (f51_A_b48).arv (N := (2 : Int32)) rfl (vs := ([(own_c p6), (own_c (Jvm.Free.XT.ushr p6 (8 : Int32)))] : List Int32).map Value.int) (d := .int 0) (own_vs p6 (Jvm.Free.XT.ushr p6 (8 : Int32))) (own_vf p6 (Jvm.Free.XT.ushr p6 (8 : Int32)))
      obtain ⟨v52, T52, L52, X52, hQ52, st52⟩ := own_callIB X51 hx hZ (y := (⟨"java/lang/String", "<init>", "([C)V"⟩ : MethodName)) rfl hown (hw _ (List.mem_of_getElem? (i := 7) rfl)) (hw _ (List.mem_of_getElem? (i := 8) rfl)) (hw _ (List.mem_of_getElem? (i := 9) rfl)) (by decide) e51 (W := 1) (StrChars.Road.backV (W := 1) hZ (fun d hd => hw d (own_hws d hd)) (kI := 4) (hw _ (List.mem_of_getElem? (i := 5) rfl)) (cs := ([(own_c p6), (own_c (Jvm.Free.XT.ushr p6 (8 : Int32)))] : List Int32)) (bs := ([(own_c p6), (own_c (Jvm.Free.XT.ushr p6 (8 : Int32)))] : List Int32).map (fun c => c.toInt8.toInt32)) (n := 2) gb_b51 Z51 A51 f51_F_value f51_F_coder Kc52 (O2.ext (own_kext K51)) P5 rfl rfl (by decide) (by decide) (own_hp p6 (Jvm.Free.XT.ushr p6 (8 : Int32))) rfl (by decide) (by decide)) (g := (mkF m 101 #[.val (.int p1), .val (.int p2), .val (.int p3), .val (.int p4), .val (.int p5), .val (.int p6), .val (.int (own_l2 p1 p3 p5)), .val (.int (own_c2 p2 p4 p5)), .val (.ref z44), .val (.ref z47), .val (.ref b48), .unset, .unset, .unset, .unset, .unset, .unset, .unset] [(.ref b48), (.ref b51), (.ref b51)])) rfl (by rw [hml]; rfl) (rest := [(.ref b51)]) (lenOf own_pd6 rfl) rfl (by show 2 * 0 + _ ≤ _; exact Nat.le_of_eq rfl) (hb hby at_101) (by decide) (by decide)
      obtain ⟨rfl, Nq52, Kq52, Eq52, Cq52, t52, kb52, gt52, szt52, net52, Vq52, Bq52⟩ := hQ52
      have ne_b48_t52 : b48 ≠ t52 := Nat.ne_of_lt (Nat.lt_of_lt_of_le (f51_A_b48).lt szt52)
      have ne_b51_t52 : b51 ≠ t52 := Nat.ne_of_lt (Nat.lt_of_lt_of_le (A51).lt szt52)
      have sz_t52 : h0.size ≤ t52 := Nat.le_trans K51.1 szt52
      have f52_A_b48 := f51_A_b48.keep Kq52 (ninS ne_b48_b51 nin0)
      have f52_E_b51 := A51.keep Kq52
      have K52 := K51.trans Kq52 (allS (Or.inr sz_b51) all0)
      have Z52 := Nat.le_trans Z51 Kq52.1
      have N52 := Fr.app N50 Nq52
      refine oS (u' := T52.setTop (mkF m 104 #[.val (.int p1), .val (.int p2), .val (.int p3), .val (.int p4), .val (.int p5), .val (.int p6), .val (.int (own_l2 p1 p3 p5)), .val (.int (own_c2 p2 p4 p5)), .val (.ref z44), .val (.ref z47), .val (.ref b48), .unset, .unset, .unset, .unset, .unset, .unset, .unset] [(.ref b51)])) st52 ?_
      refine oS (u' := T52.setTop (mkF m 106 #[.val (.int p1), .val (.int p2), .val (.int p3), .val (.int p4), .val (.int p5), .val (.int p6), .val (.int (own_l2 p1 p3 p5)), .val (.int (own_c2 p2 p4 p5)), .val (.ref z44), .val (.ref z47), .val (.ref b48), .val (.ref b51), .unset, .unset, .unset, .unset, .unset, .unset] [])) (fun _ kst => XS.astore X52.here hx rfl (hb hby at_104) rfl rfl (l' := #[.val (.int p1), .val (.int p2), .val (.int p3), .val (.int p4), .val (.int p5), .val (.int p6), .val (.int (own_l2 p1 p3 p5)), .val (.int (own_c2 p2 p4 p5)), .val (.ref z44), .val (.ref z47), .val (.ref b48), .val (.ref b51), .unset, .unset, .unset, .unset, .unset, .unset]) rfl kst) ?_
      refine oS (u' := T52.setTop (mkF m 108 #[.val (.int p1), .val (.int p2), .val (.int p3), .val (.int p4), .val (.int p5), .val (.int p6), .val (.int (own_l2 p1 p3 p5)), .val (.int (own_c2 p2 p4 p5)), .val (.ref z44), .val (.ref z47), .val (.ref b48), .val (.ref b51), .unset, .unset, .unset, .unset, .unset, .unset] [(.int p6)])) (fun _ kst => XS.iload X52.here hx rfl (hb hby at_106) rfl kst) ?_
      refine oS (u' := T52.setTop (mkF m 110 #[.val (.int p1), .val (.int p2), .val (.int p3), .val (.int p4), .val (.int p5), .val (.int p6), .val (.int (own_l2 p1 p3 p5)), .val (.int (own_c2 p2 p4 p5)), .val (.ref z44), .val (.ref z47), .val (.ref b48), .val (.ref b51), .unset, .unset, .unset, .unset, .unset, .unset] [(.int (16 : Int32)), (.int p6)])) (fun _ kst => XS.bipush X52.here hx rfl (hb hby at_108) kst) ?_
      refine oS (u' := T52.setTop (mkF m 111 #[.val (.int p1), .val (.int p2), .val (.int p3), .val (.int p4), .val (.int p5), .val (.int p6), .val (.int (own_l2 p1 p3 p5)), .val (.int (own_c2 p2 p4 p5)), .val (.ref z44), .val (.ref z47), .val (.ref b48), .val (.ref b51), .unset, .unset, .unset, .unset, .unset, .unset] [(.int (Jvm.Free.XT.ushr p6 (16 : Int32)))])) (fun _ kst => XS.iushr X52.here hx rfl (hb hby at_110) rfl kst) ?_
      refine oS (u' := T52.setTop (mkF m 114 #[.val (.int p1), .val (.int p2), .val (.int p3), .val (.int p4), .val (.int p5), .val (.int p6), .val (.int (own_l2 p1 p3 p5)), .val (.int (own_c2 p2 p4 p5)), .val (.ref z44), .val (.ref z47), .val (.ref b48), .val (.ref b51), .unset, .unset, .unset, .unset, .unset, .unset] [(.int (255 : Int32)), (.int (Jvm.Free.XT.ushr p6 (16 : Int32)))])) (fun _ kst => XS.sipush X52.here hx rfl (hb hby at_111) kst) ?_
      refine oS (u' := T52.setTop (mkF m 115 #[.val (.int p1), .val (.int p2), .val (.int p3), .val (.int p4), .val (.int p5), .val (.int p6), .val (.int (own_l2 p1 p3 p5)), .val (.int (own_c2 p2 p4 p5)), .val (.ref z44), .val (.ref z47), .val (.ref b48), .val (.ref b51), .unset, .unset, .unset, .unset, .unset, .unset] [(.int ((Jvm.Free.XT.ushr p6 (16 : Int32)) &&& (255 : Int32)))])) (fun _ kst => XS.iand X52.here hx rfl (hb hby at_114) rfl kst) ?_
      refine oS (u' := T52.setTop (mkF m 116 #[.val (.int p1), .val (.int p2), .val (.int p3), .val (.int p4), .val (.int p5), .val (.int p6), .val (.int (own_l2 p1 p3 p5)), .val (.int (own_c2 p2 p4 p5)), .val (.ref z44), .val (.ref z47), .val (.ref b48), .val (.ref b51), .unset, .unset, .unset, .unset, .unset, .unset] [(.int (own_c (Jvm.Free.XT.ushr p6 (16 : Int32))))])) (fun _ kst => XS.i2c X52.here hx rfl (hb hby at_115) rfl kst) ?_
      obtain ⟨v53, T53, L53, X53, hQ53, st53⟩ := own_callS X52 hx hZ (y := (⟨"java/lang/String", "valueOf", "(C)Ljava/lang/String;"⟩ : MethodName)) hown (hw _ (List.mem_of_getElem? (i := 33) rfl)) (hw _ (List.mem_of_getElem? (i := 34) rfl)) (hw _ (List.mem_of_getElem? (i := 35) rfl)) (hw _ (List.mem_of_getElem? (i := 6) rfl)) (by decide) rfl (W := 0) (own_rm_valof l Z a0 hw (own_c (Jvm.Free.XT.ushr p6 (16 : Int32))) G1 T52.heap n0 Z52 (O2.ext (own_kext K52)) P5 (own_c_in _).2) (by decide) (by decide) (g := (mkF m 116 #[.val (.int p1), .val (.int p2), .val (.int p3), .val (.int p4), .val (.int p5), .val (.int p6), .val (.int (own_l2 p1 p3 p5)), .val (.int (own_c2 p2 p4 p5)), .val (.ref z44), .val (.ref z47), .val (.ref b48), .val (.ref b51), .unset, .unset, .unset, .unset, .unset, .unset] [(.int (own_c (Jvm.Free.XT.ushr p6 (16 : Int32))))])) rfl (by rw [hml]; rfl) (argsL := [(.int (own_c (Jvm.Free.XT.ushr p6 (16 : Int32))))]) (rest := []) (lenOf own_pd7 rfl) rfl (by show 2 * 0 + _ ≤ _; exact Nat.le_of_eq rfl) (hb hby at_116) (by decide) (by decide)
      obtain ⟨s53, rfl, Nq53, Kq53, gs53, ss53, Es53⟩ := hQ53
      have f53_A_b48 := f52_A_b48.keep Kq53 nin0
      have f53_E_b51 := f52_E_b51.keep Kq53
      have f53_F_b51_coder := Cq52.keep Kq53 nin0
      have f53_F_b51_value := Vq52.keep Kq53 nin0
      have f53_V_t52 := Bq52.keep Kq53 nin0
      have K53 := K52.trans Kq53 all0
      have Z53 := Nat.le_trans Z52 Kq53.1
      have N53 := Fr.app N52 Nq53
      refine oS (u' := T53.setTop (mkF m 119 #[.val (.int p1), .val (.int p2), .val (.int p3), .val (.int p4), .val (.int p5), .val (.int p6), .val (.int (own_l2 p1 p3 p5)), .val (.int (own_c2 p2 p4 p5)), .val (.ref z44), .val (.ref z47), .val (.ref b48), .val (.ref b51), .unset, .unset, .unset, .unset, .unset, .unset] [(.ref s53)])) st53 ?_
      refine oS (u' := T53.setTop (mkF m 121 #[.val (.int p1), .val (.int p2), .val (.int p3), .val (.int p4), .val (.int p5), .val (.int p6), .val (.int (own_l2 p1 p3 p5)), .val (.int (own_c2 p2 p4 p5)), .val (.ref z44), .val (.ref z47), .val (.ref b48), .val (.ref b51), .val (.ref s53), .unset, .unset, .unset, .unset, .unset] [])) (fun _ kst => XS.astore X53.here hx rfl (hb hby at_119) rfl rfl (l' := #[.val (.int p1), .val (.int p2), .val (.int p3), .val (.int p4), .val (.int p5), .val (.int p6), .val (.int (own_l2 p1 p3 p5)), .val (.int (own_c2 p2 p4 p5)), .val (.ref z44), .val (.ref z47), .val (.ref b48), .val (.ref b51), .val (.ref s53), .unset, .unset, .unset, .unset, .unset]) rfl kst) ?_
      obtain ⟨T54, h54, X54, e54, E54, A54, D54, -, st54⟩ := newO X53 hx hZ hown (hw _ (List.mem_of_getElem? (i := 47) rfl)) (hw _ (List.mem_of_getElem? (i := 48) rfl)) (hw _ (List.mem_of_getElem? (i := 49) rfl)) rfl (g := (mkF m 121 #[.val (.int p1), .val (.int p2), .val (.int p3), .val (.int p4), .val (.int p5), .val (.int p6), .val (.int (own_l2 p1 p3 p5)), .val (.int (own_c2 p2 p4 p5)), .val (.ref z44), .val (.ref z47), .val (.ref b48), .val (.ref b51), .val (.ref s53), .unset, .unset, .unset, .unset, .unset] [])) rfl (hb hby at_121) (by decide) (by decide)
      obtain ⟨b54, g54⟩ : ∃ z, z = T53.heap.size := ⟨_, rfl⟩
      rw [← g54] at A54 D54 st54
      have ne_b48_b54 : b48 ≠ b54 := Nat.ne_of_lt (Nat.lt_of_lt_of_le (f53_A_b48).lt (Nat.le_of_eq g54.symm))
      have ne_b51_b54 : b51 ≠ b54 := Nat.ne_of_lt (Nat.lt_of_lt_of_le (f53_E_b51).lt (Nat.le_of_eq g54.symm))
      have ne_t52_b54 : t52 ≠ b54 := Nat.ne_of_lt (Nat.lt_of_lt_of_le (f53_V_t52).lt (Nat.le_of_eq g54.symm))
      have ne_s53_b54 : s53 ≠ b54 := Nat.ne_of_lt (Nat.lt_of_lt_of_le (Es53).lt (Nat.le_of_eq g54.symm))
      have f54_A_b48 := f53_A_b48.ext E54
      have f54_E_b51 := f53_E_b51.ext E54
      have f54_F_b51_coder := f53_F_b51_coder.ext E54
      have f54_F_b51_value := f53_F_b51_value.ext E54
      have f54_V_t52 := f53_V_t52.ext E54
      have f54_E_s53 := Es53.ext E54
      have gb_b54 : n0 ≤ b54 := Nat.le_trans Z53 (Nat.le_of_eq g54.symm)
      have sz_b54 : h0.size ≤ b54 := Nat.le_trans K53.1 (Nat.le_of_eq g54.symm)
      have K54 := K53.ext E54
      have Z54 := Nat.le_trans Z53 E54.1
      have f54_F_kind : Fld Z h54 b54 "com/example/demitasse/demitasse/source/Diagnostic" "kind" "Lcom/example/demitasse/demitasse/source/Diagnostic$Kind;" .null := D54 (Or.inr (hw _ (List.mem_of_getElem? (i := 71) rfl))) (ty := (.object "com/example/demitasse/demitasse/source/Diagnostic$Kind")) (by decide)
      have f54_F_position : Fld Z h54 b54 "com/example/demitasse/demitasse/source/Diagnostic" "position" "Lcom/example/demitasse/demitasse/source/Position;" .null := D54 (Or.inr (hw _ (List.mem_of_getElem? (i := 73) rfl))) (ty := (.object "com/example/demitasse/demitasse/source/Position")) (by decide)
      have f54_F_message : Fld Z h54 b54 "com/example/demitasse/demitasse/source/Diagnostic" "message" "Ljava/lang/String;" .null := D54 (Or.inr (hw _ (List.mem_of_getElem? (i := 75) rfl))) (ty := (.object "java/lang/String")) (by decide)
      refine oS (u' := T54.setTop (mkF m 124 #[.val (.int p1), .val (.int p2), .val (.int p3), .val (.int p4), .val (.int p5), .val (.int p6), .val (.int (own_l2 p1 p3 p5)), .val (.int (own_c2 p2 p4 p5)), .val (.ref z44), .val (.ref z47), .val (.ref b48), .val (.ref b51), .val (.ref s53), .unset, .unset, .unset, .unset, .unset] [(.ref b54)])) st54 ?_
      refine oS (u' := T54.setTop (mkF m 125 #[.val (.int p1), .val (.int p2), .val (.int p3), .val (.int p4), .val (.int p5), .val (.int p6), .val (.int (own_l2 p1 p3 p5)), .val (.int (own_c2 p2 p4 p5)), .val (.ref z44), .val (.ref z47), .val (.ref b48), .val (.ref b51), .val (.ref s53), .unset, .unset, .unset, .unset, .unset] [(.ref b54), (.ref b54)])) (fun _ kst => XS.dup X54.here hx rfl (hb hby at_124) rfl rfl kst) ?_
      refine oS (u' := T54.setTop (mkF m 127 #[.val (.int p1), .val (.int p2), .val (.int p3), .val (.int p4), .val (.int p5), .val (.int p6), .val (.int (own_l2 p1 p3 p5)), .val (.int (own_c2 p2 p4 p5)), .val (.ref z44), .val (.ref z47), .val (.ref b48), .val (.ref b51), .val (.ref s53), .unset, .unset, .unset, .unset, .unset] [(.ref z44), (.ref b54), (.ref b54)])) (fun _ kst => XS.aload X54.here hx rfl (hb hby at_125) rfl rfl kst) ?_
      obtain ⟨T55, h55, X55, e55, E55, A55, D55, -, st55⟩ := newO X54 hx hZ hown (hw _ (List.mem_of_getElem? (i := 50) rfl)) (hw _ (List.mem_of_getElem? (i := 51) rfl)) (hw _ (List.mem_of_getElem? (i := 52) rfl)) e54 (g := (mkF m 127 #[.val (.int p1), .val (.int p2), .val (.int p3), .val (.int p4), .val (.int p5), .val (.int p6), .val (.int (own_l2 p1 p3 p5)), .val (.int (own_c2 p2 p4 p5)), .val (.ref z44), .val (.ref z47), .val (.ref b48), .val (.ref b51), .val (.ref s53), .unset, .unset, .unset, .unset, .unset] [(.ref z44), (.ref b54), (.ref b54)])) rfl (hb hby at_127) (by decide) (by decide)
      obtain ⟨b55, g55⟩ : ∃ z, z = h54.size := ⟨_, rfl⟩
      rw [← g55] at A55 D55 st55
      have ne_b48_b55 : b48 ≠ b55 := Nat.ne_of_lt (Nat.lt_of_lt_of_le (f54_A_b48).lt (Nat.le_of_eq g55.symm))
      have ne_b51_b55 : b51 ≠ b55 := Nat.ne_of_lt (Nat.lt_of_lt_of_le (f54_E_b51).lt (Nat.le_of_eq g55.symm))
      have ne_t52_b55 : t52 ≠ b55 := Nat.ne_of_lt (Nat.lt_of_lt_of_le (f54_V_t52).lt (Nat.le_of_eq g55.symm))
      have ne_s53_b55 : s53 ≠ b55 := Nat.ne_of_lt (Nat.lt_of_lt_of_le (f54_E_s53).lt (Nat.le_of_eq g55.symm))
      have ne_b54_b55 : b54 ≠ b55 := Nat.ne_of_lt (Nat.lt_of_lt_of_le (A54).lt (Nat.le_of_eq g55.symm))
      have f55_A_b48 := f54_A_b48.ext E55
      have f55_E_b51 := f54_E_b51.ext E55
      have f55_F_b51_coder := f54_F_b51_coder.ext E55
      have f55_F_b51_value := f54_F_b51_value.ext E55
      have f55_V_t52 := f54_V_t52.ext E55
      have f55_E_s53 := f54_E_s53.ext E55
      have f55_E_b54 := A54.ext E55
      have f55_F_b54_kind := f54_F_kind.ext E55
      have f55_F_b54_position := f54_F_position.ext E55
      have f55_F_b54_message := f54_F_message.ext E55
      have gb_b55 : n0 ≤ b55 := Nat.le_trans Z54 (Nat.le_of_eq g55.symm)
      have sz_b55 : h0.size ≤ b55 := Nat.le_trans K54.1 (Nat.le_of_eq g55.symm)
      have K55 := K54.ext E55
      have Z55 := Nat.le_trans Z54 E55.1
      have f55_F_line : Fld Z h55 b55 "com/example/demitasse/demitasse/source/Position" "line" "I" (.int (0 : Int32)) := D55 (Or.inr (hw _ (List.mem_of_getElem? (i := 63) rfl))) (ty := .int) (by decide)
      have f55_F_column : Fld Z h55 b55 "com/example/demitasse/demitasse/source/Position" "column" "I" (.int (0 : Int32)) := D55 (Or.inr (hw _ (List.mem_of_getElem? (i := 65) rfl))) (ty := .int) (by decide)
      refine oS (u' := T55.setTop (mkF m 130 #[.val (.int p1), .val (.int p2), .val (.int p3), .val (.int p4), .val (.int p5), .val (.int p6), .val (.int (own_l2 p1 p3 p5)), .val (.int (own_c2 p2 p4 p5)), .val (.ref z44), .val (.ref z47), .val (.ref b48), .val (.ref b51), .val (.ref s53), .unset, .unset, .unset, .unset, .unset] [(.ref b55), (.ref z44), (.ref b54), (.ref b54)])) st55 ?_
      refine oS (u' := T55.setTop (mkF m 131 #[.val (.int p1), .val (.int p2), .val (.int p3), .val (.int p4), .val (.int p5), .val (.int p6), .val (.int (own_l2 p1 p3 p5)), .val (.int (own_c2 p2 p4 p5)), .val (.ref z44), .val (.ref z47), .val (.ref b48), .val (.ref b51), .val (.ref s53), .unset, .unset, .unset, .unset, .unset] [(.ref b55), (.ref b55), (.ref z44), (.ref b54), (.ref b54)])) (fun _ kst => XS.dup X55.here hx rfl (hb hby at_130) rfl rfl kst) ?_
      refine oS (u' := T55.setTop (mkF m 132 #[.val (.int p1), .val (.int p2), .val (.int p3), .val (.int p4), .val (.int p5), .val (.int p6), .val (.int (own_l2 p1 p3 p5)), .val (.int (own_c2 p2 p4 p5)), .val (.ref z44), .val (.ref z47), .val (.ref b48), .val (.ref b51), .val (.ref s53), .unset, .unset, .unset, .unset, .unset] [(.int p1), (.ref b55), (.ref b55), (.ref z44), (.ref b54), (.ref b54)])) (fun _ kst => XS.iloadN X55.here hx rfl (hb hby at_131) rfl kst) ?_
      refine oS (u' := T55.setTop (mkF m 133 #[.val (.int p1), .val (.int p2), .val (.int p3), .val (.int p4), .val (.int p5), .val (.int p6), .val (.int (own_l2 p1 p3 p5)), .val (.int (own_c2 p2 p4 p5)), .val (.ref z44), .val (.ref z47), .val (.ref b48), .val (.ref b51), .val (.ref s53), .unset, .unset, .unset, .unset, .unset] [(.int p2), (.int p1), (.ref b55), (.ref b55), (.ref z44), (.ref b54), (.ref b54)])) (fun _ kst => XS.iloadN X55.here hx rfl (hb hby at_132) rfl kst) ?_
      obtain ⟨v56, T56, L56, X56, hQ56, st56⟩ := own_callI X55 hx hZ (y := (⟨"com/example/demitasse/demitasse/source/Position", "<init>", "(II)V"⟩ : MethodName)) rfl hown (hw _ (List.mem_of_getElem? (i := 53) rfl)) (hw _ (List.mem_of_getElem? (i := 54) rfl)) (hw _ (List.mem_of_getElem? (i := 55) rfl)) (hw _ (List.mem_of_getElem? (i := 52) rfl)) (by decide) e55 (W := 4) (own_rm_posinit l Z a0 hw b55 p1 p2 h55 n0 Z55 A55 f55_F_line f55_F_column gb_b55) (by decide) (by decide) (g := (mkF m 133 #[.val (.int p1), .val (.int p2), .val (.int p3), .val (.int p4), .val (.int p5), .val (.int p6), .val (.int (own_l2 p1 p3 p5)), .val (.int (own_c2 p2 p4 p5)), .val (.ref z44), .val (.ref z47), .val (.ref b48), .val (.ref b51), .val (.ref s53), .unset, .unset, .unset, .unset, .unset] [(.int p2), (.int p1), (.ref b55), (.ref b55), (.ref z44), (.ref b54), (.ref b54)])) rfl (by rw [hml]; rfl) (a := b55) (argsL := [(.int p1), (.int p2)]) (rest := [(.ref b55), (.ref z44), (.ref b54), (.ref b54)]) (lenOf own_pd8 rfl) rfl (by show 2 * 0 + _ ≤ _; exact Nat.le_of_eq rfl) (hb hby at_133) (by decide) (by decide)
      obtain ⟨rfl, Nq56, Kq56, Fl56, Fc56⟩ := hQ56
      have f56_A_b48 := f55_A_b48.keep Kq56 (ninS ne_b48_b55 nin0)
      have f56_E_b51 := f55_E_b51.keep Kq56
      have f56_F_b51_coder := f55_F_b51_coder.keep Kq56 (ninS ne_b51_b55 nin0)
      have f56_F_b51_value := f55_F_b51_value.keep Kq56 (ninS ne_b51_b55 nin0)
      have f56_V_t52 := f55_V_t52.keep Kq56 (ninS ne_t52_b55 nin0)
      have f56_E_s53 := f55_E_s53.keep Kq56
      have f56_E_b54 := f55_E_b54.keep Kq56
      have f56_F_b54_kind := f55_F_b54_kind.keep Kq56 (ninS ne_b54_b55 nin0)
      have f56_F_b54_position := f55_F_b54_position.keep Kq56 (ninS ne_b54_b55 nin0)
      have f56_F_b54_message := f55_F_b54_message.keep Kq56 (ninS ne_b54_b55 nin0)
      have f56_E_b55 := A55.keep Kq56
      have K56 := K55.trans Kq56 (allS (Or.inr sz_b55) all0)
      have Z56 := Nat.le_trans Z55 Kq56.1
      have N56 := Fr.app N53 Nq56
      refine oS (u' := T56.setTop (mkF m 136 #[.val (.int p1), .val (.int p2), .val (.int p3), .val (.int p4), .val (.int p5), .val (.int p6), .val (.int (own_l2 p1 p3 p5)), .val (.int (own_c2 p2 p4 p5)), .val (.ref z44), .val (.ref z47), .val (.ref b48), .val (.ref b51), .val (.ref s53), .unset, .unset, .unset, .unset, .unset] [(.ref b55), (.ref z44), (.ref b54), (.ref b54)])) st56 ?_
      refine oS (u' := T56.setTop (mkF m 138 #[.val (.int p1), .val (.int p2), .val (.int p3), .val (.int p4), .val (.int p5), .val (.int p6), .val (.int (own_l2 p1 p3 p5)), .val (.int (own_c2 p2 p4 p5)), .val (.ref z44), .val (.ref z47), .val (.ref b48), .val (.ref b51), .val (.ref s53), .unset, .unset, .unset, .unset, .unset] [(.ref b51), (.ref b55), (.ref z44), (.ref b54), (.ref b54)])) (fun _ kst => XS.aload X56.here hx rfl (hb hby at_136) rfl rfl kst) ?_
      obtain ⟨v57, T57, L57, X57, hQ57, st57⟩ := own_callI X56 hx hZ (y := (⟨"com/example/demitasse/demitasse/source/Diagnostic", "<init>", "(Lcom/example/demitasse/demitasse/source/Diagnostic$Kind;Lcom/example/demitasse/demitasse/source/Position;Ljava/lang/String;)V"⟩ : MethodName)) rfl hown (hw _ (List.mem_of_getElem? (i := 66) rfl)) (hw _ (List.mem_of_getElem? (i := 67) rfl)) (hw _ (List.mem_of_getElem? (i := 68) rfl)) (hw _ (List.mem_of_getElem? (i := 49) rfl)) (by decide) rfl (W := 1) (own_rm_dinit l Z a0 hw b54 z44 b55 b51 T56.heap n0 Z56 f56_E_b54 f56_F_b54_kind f56_F_b54_position f56_F_b54_message gb_b54) (by decide) (by decide) (g := (mkF m 138 #[.val (.int p1), .val (.int p2), .val (.int p3), .val (.int p4), .val (.int p5), .val (.int p6), .val (.int (own_l2 p1 p3 p5)), .val (.int (own_c2 p2 p4 p5)), .val (.ref z44), .val (.ref z47), .val (.ref b48), .val (.ref b51), .val (.ref s53), .unset, .unset, .unset, .unset, .unset] [(.ref b51), (.ref b55), (.ref z44), (.ref b54), (.ref b54)])) rfl (by rw [hml]; rfl) (a := b54) (argsL := [(.ref z44), (.ref b55), (.ref b51)]) (rest := [(.ref b54)]) (lenOf own_pd9 rfl) rfl (by show 2 * 0 + _ ≤ _; exact Nat.le_of_eq rfl) (hb hby at_138) (by decide) (by decide)
      obtain ⟨rfl, Nq57, Kq57, Fk57, Fp57, Fm57⟩ := hQ57
      have f57_A_b48 := f56_A_b48.keep Kq57 (ninS ne_b48_b54 nin0)
      have f57_E_b51 := f56_E_b51.keep Kq57
      have f57_F_b51_coder := f56_F_b51_coder.keep Kq57 (ninS ne_b51_b54 nin0)
      have f57_F_b51_value := f56_F_b51_value.keep Kq57 (ninS ne_b51_b54 nin0)
      have f57_V_t52 := f56_V_t52.keep Kq57 (ninS ne_t52_b54 nin0)
      have f57_E_s53 := f56_E_s53.keep Kq57
      have f57_E_b54 := f56_E_b54.keep Kq57
      have f57_E_b55 := f56_E_b55.keep Kq57
      have f57_F_b55_line := Fl56.keep Kq57 (ninS (Ne.symm ne_b54_b55) nin0)
      have f57_F_b55_column := Fc56.keep Kq57 (ninS (Ne.symm ne_b54_b55) nin0)
      have K57 := K56.trans Kq57 (allS (Or.inr sz_b54) all0)
      have Z57 := Nat.le_trans Z56 Kq57.1
      have N57 := Fr.app N56 Nq57
      refine oS (u' := T57.setTop (mkF m 141 #[.val (.int p1), .val (.int p2), .val (.int p3), .val (.int p4), .val (.int p5), .val (.int p6), .val (.int (own_l2 p1 p3 p5)), .val (.int (own_c2 p2 p4 p5)), .val (.ref z44), .val (.ref z47), .val (.ref b48), .val (.ref b51), .val (.ref s53), .unset, .unset, .unset, .unset, .unset] [(.ref b54)])) st57 ?_
      refine oS (u' := T57.setTop (mkF m 143 #[.val (.int p1), .val (.int p2), .val (.int p3), .val (.int p4), .val (.int p5), .val (.int p6), .val (.int (own_l2 p1 p3 p5)), .val (.int (own_c2 p2 p4 p5)), .val (.ref z44), .val (.ref z47), .val (.ref b48), .val (.ref b51), .val (.ref s53), .val (.ref b54), .unset, .unset, .unset, .unset] [])) (fun _ kst => XS.astore X57.here hx rfl (hb hby at_141) rfl rfl (l' := #[.val (.int p1), .val (.int p2), .val (.int p3), .val (.int p4), .val (.int p5), .val (.int p6), .val (.int (own_l2 p1 p3 p5)), .val (.int (own_c2 p2 p4 p5)), .val (.ref z44), .val (.ref z47), .val (.ref b48), .val (.ref b51), .val (.ref s53), .val (.ref b54), .unset, .unset, .unset, .unset]) rfl kst) ?_
      obtain ⟨T58, h58, X58, e58, E58, A58, D58, -, st58⟩ := newO X57 hx hZ hown (hw _ (List.mem_of_getElem? (i := 47) rfl)) (hw _ (List.mem_of_getElem? (i := 48) rfl)) (hw _ (List.mem_of_getElem? (i := 49) rfl)) rfl (g := (mkF m 143 #[.val (.int p1), .val (.int p2), .val (.int p3), .val (.int p4), .val (.int p5), .val (.int p6), .val (.int (own_l2 p1 p3 p5)), .val (.int (own_c2 p2 p4 p5)), .val (.ref z44), .val (.ref z47), .val (.ref b48), .val (.ref b51), .val (.ref s53), .val (.ref b54), .unset, .unset, .unset, .unset] [])) rfl (hb hby at_143) (by decide) (by decide)
      obtain ⟨b58, g58⟩ : ∃ z, z = T57.heap.size := ⟨_, rfl⟩
      rw [← g58] at A58 D58 st58
      have ne_b48_b58 : b48 ≠ b58 := Nat.ne_of_lt (Nat.lt_of_lt_of_le (f57_A_b48).lt (Nat.le_of_eq g58.symm))
      have ne_b51_b58 : b51 ≠ b58 := Nat.ne_of_lt (Nat.lt_of_lt_of_le (f57_E_b51).lt (Nat.le_of_eq g58.symm))
      have ne_t52_b58 : t52 ≠ b58 := Nat.ne_of_lt (Nat.lt_of_lt_of_le (f57_V_t52).lt (Nat.le_of_eq g58.symm))
      have ne_s53_b58 : s53 ≠ b58 := Nat.ne_of_lt (Nat.lt_of_lt_of_le (f57_E_s53).lt (Nat.le_of_eq g58.symm))
      have ne_b54_b58 : b54 ≠ b58 := Nat.ne_of_lt (Nat.lt_of_lt_of_le (f57_E_b54).lt (Nat.le_of_eq g58.symm))
      have ne_b55_b58 : b55 ≠ b58 := Nat.ne_of_lt (Nat.lt_of_lt_of_le (f57_E_b55).lt (Nat.le_of_eq g58.symm))
      have f58_A_b48 := f57_A_b48.ext E58
      have f58_E_b51 := f57_E_b51.ext E58
      have f58_F_b51_coder := f57_F_b51_coder.ext E58
      have f58_F_b51_value := f57_F_b51_value.ext E58
      have f58_V_t52 := f57_V_t52.ext E58
      have f58_E_s53 := f57_E_s53.ext E58
      have f58_E_b54 := f57_E_b54.ext E58
      have f58_E_b55 := f57_E_b55.ext E58
      have f58_F_b55_line := f57_F_b55_line.ext E58
      have f58_F_b55_column := f57_F_b55_column.ext E58
      have f58_F_b54_kind := Fk57.ext E58
      have f58_F_b54_position := Fp57.ext E58
      have f58_F_b54_message := Fm57.ext E58
      have gb_b58 : n0 ≤ b58 := Nat.le_trans Z57 (Nat.le_of_eq g58.symm)
      have sz_b58 : h0.size ≤ b58 := Nat.le_trans K57.1 (Nat.le_of_eq g58.symm)
      have K58 := K57.ext E58
      have Z58 := Nat.le_trans Z57 E58.1
      have f58_F_kind : Fld Z h58 b58 "com/example/demitasse/demitasse/source/Diagnostic" "kind" "Lcom/example/demitasse/demitasse/source/Diagnostic$Kind;" .null := D58 (Or.inr (hw _ (List.mem_of_getElem? (i := 71) rfl))) (ty := (.object "com/example/demitasse/demitasse/source/Diagnostic$Kind")) (by decide)
      have f58_F_position : Fld Z h58 b58 "com/example/demitasse/demitasse/source/Diagnostic" "position" "Lcom/example/demitasse/demitasse/source/Position;" .null := D58 (Or.inr (hw _ (List.mem_of_getElem? (i := 73) rfl))) (ty := (.object "com/example/demitasse/demitasse/source/Position")) (by decide)
      have f58_F_message : Fld Z h58 b58 "com/example/demitasse/demitasse/source/Diagnostic" "message" "Ljava/lang/String;" .null := D58 (Or.inr (hw _ (List.mem_of_getElem? (i := 75) rfl))) (ty := (.object "java/lang/String")) (by decide)
      refine oS (u' := T58.setTop (mkF m 146 #[.val (.int p1), .val (.int p2), .val (.int p3), .val (.int p4), .val (.int p5), .val (.int p6), .val (.int (own_l2 p1 p3 p5)), .val (.int (own_c2 p2 p4 p5)), .val (.ref z44), .val (.ref z47), .val (.ref b48), .val (.ref b51), .val (.ref s53), .val (.ref b54), .unset, .unset, .unset, .unset] [(.ref b58)])) st58 ?_
      refine oS (u' := T58.setTop (mkF m 147 #[.val (.int p1), .val (.int p2), .val (.int p3), .val (.int p4), .val (.int p5), .val (.int p6), .val (.int (own_l2 p1 p3 p5)), .val (.int (own_c2 p2 p4 p5)), .val (.ref z44), .val (.ref z47), .val (.ref b48), .val (.ref b51), .val (.ref s53), .val (.ref b54), .unset, .unset, .unset, .unset] [(.ref b58), (.ref b58)])) (fun _ kst => XS.dup X58.here hx rfl (hb hby at_146) rfl rfl kst) ?_
      refine oS (u' := T58.setTop (mkF m 149 #[.val (.int p1), .val (.int p2), .val (.int p3), .val (.int p4), .val (.int p5), .val (.int p6), .val (.int (own_l2 p1 p3 p5)), .val (.int (own_c2 p2 p4 p5)), .val (.ref z44), .val (.ref z47), .val (.ref b48), .val (.ref b51), .val (.ref s53), .val (.ref b54), .unset, .unset, .unset, .unset] [(.ref z47), (.ref b58), (.ref b58)])) (fun _ kst => XS.aload X58.here hx rfl (hb hby at_147) rfl rfl kst) ?_
      obtain ⟨T59, h59, X59, e59, E59, A59, D59, -, st59⟩ := newO X58 hx hZ hown (hw _ (List.mem_of_getElem? (i := 50) rfl)) (hw _ (List.mem_of_getElem? (i := 51) rfl)) (hw _ (List.mem_of_getElem? (i := 52) rfl)) e58 (g := (mkF m 149 #[.val (.int p1), .val (.int p2), .val (.int p3), .val (.int p4), .val (.int p5), .val (.int p6), .val (.int (own_l2 p1 p3 p5)), .val (.int (own_c2 p2 p4 p5)), .val (.ref z44), .val (.ref z47), .val (.ref b48), .val (.ref b51), .val (.ref s53), .val (.ref b54), .unset, .unset, .unset, .unset] [(.ref z47), (.ref b58), (.ref b58)])) rfl (hb hby at_149) (by decide) (by decide)
      obtain ⟨b59, g59⟩ : ∃ z, z = h58.size := ⟨_, rfl⟩
      rw [← g59] at A59 D59 st59
      have ne_b48_b59 : b48 ≠ b59 := Nat.ne_of_lt (Nat.lt_of_lt_of_le (f58_A_b48).lt (Nat.le_of_eq g59.symm))
      have ne_b51_b59 : b51 ≠ b59 := Nat.ne_of_lt (Nat.lt_of_lt_of_le (f58_E_b51).lt (Nat.le_of_eq g59.symm))
      have ne_t52_b59 : t52 ≠ b59 := Nat.ne_of_lt (Nat.lt_of_lt_of_le (f58_V_t52).lt (Nat.le_of_eq g59.symm))
      have ne_s53_b59 : s53 ≠ b59 := Nat.ne_of_lt (Nat.lt_of_lt_of_le (f58_E_s53).lt (Nat.le_of_eq g59.symm))
      have ne_b54_b59 : b54 ≠ b59 := Nat.ne_of_lt (Nat.lt_of_lt_of_le (f58_E_b54).lt (Nat.le_of_eq g59.symm))
      have ne_b55_b59 : b55 ≠ b59 := Nat.ne_of_lt (Nat.lt_of_lt_of_le (f58_E_b55).lt (Nat.le_of_eq g59.symm))
      have ne_b58_b59 : b58 ≠ b59 := Nat.ne_of_lt (Nat.lt_of_lt_of_le (A58).lt (Nat.le_of_eq g59.symm))
      have f59_A_b48 := f58_A_b48.ext E59
      have f59_E_b51 := f58_E_b51.ext E59
      have f59_F_b51_coder := f58_F_b51_coder.ext E59
      have f59_F_b51_value := f58_F_b51_value.ext E59
      have f59_V_t52 := f58_V_t52.ext E59
      have f59_E_s53 := f58_E_s53.ext E59
      have f59_E_b54 := f58_E_b54.ext E59
      have f59_E_b55 := f58_E_b55.ext E59
      have f59_F_b55_line := f58_F_b55_line.ext E59
      have f59_F_b55_column := f58_F_b55_column.ext E59
      have f59_F_b54_kind := f58_F_b54_kind.ext E59
      have f59_F_b54_position := f58_F_b54_position.ext E59
      have f59_F_b54_message := f58_F_b54_message.ext E59
      have f59_E_b58 := A58.ext E59
      have f59_F_b58_kind := f58_F_kind.ext E59
      have f59_F_b58_position := f58_F_position.ext E59
      have f59_F_b58_message := f58_F_message.ext E59
      have gb_b59 : n0 ≤ b59 := Nat.le_trans Z58 (Nat.le_of_eq g59.symm)
      have sz_b59 : h0.size ≤ b59 := Nat.le_trans K58.1 (Nat.le_of_eq g59.symm)
      have K59 := K58.ext E59
      have Z59 := Nat.le_trans Z58 E59.1
      have f59_F_line : Fld Z h59 b59 "com/example/demitasse/demitasse/source/Position" "line" "I" (.int (0 : Int32)) := D59 (Or.inr (hw _ (List.mem_of_getElem? (i := 63) rfl))) (ty := .int) (by decide)
      have f59_F_column : Fld Z h59 b59 "com/example/demitasse/demitasse/source/Position" "column" "I" (.int (0 : Int32)) := D59 (Or.inr (hw _ (List.mem_of_getElem? (i := 65) rfl))) (ty := .int) (by decide)
      refine oS (u' := T59.setTop (mkF m 152 #[.val (.int p1), .val (.int p2), .val (.int p3), .val (.int p4), .val (.int p5), .val (.int p6), .val (.int (own_l2 p1 p3 p5)), .val (.int (own_c2 p2 p4 p5)), .val (.ref z44), .val (.ref z47), .val (.ref b48), .val (.ref b51), .val (.ref s53), .val (.ref b54), .unset, .unset, .unset, .unset] [(.ref b59), (.ref z47), (.ref b58), (.ref b58)])) st59 ?_
      refine oS (u' := T59.setTop (mkF m 153 #[.val (.int p1), .val (.int p2), .val (.int p3), .val (.int p4), .val (.int p5), .val (.int p6), .val (.int (own_l2 p1 p3 p5)), .val (.int (own_c2 p2 p4 p5)), .val (.ref z44), .val (.ref z47), .val (.ref b48), .val (.ref b51), .val (.ref s53), .val (.ref b54), .unset, .unset, .unset, .unset] [(.ref b59), (.ref b59), (.ref z47), (.ref b58), (.ref b58)])) (fun _ kst => XS.dup X59.here hx rfl (hb hby at_152) rfl rfl kst) ?_
      refine oS (u' := T59.setTop (mkF m 155 #[.val (.int p1), .val (.int p2), .val (.int p3), .val (.int p4), .val (.int p5), .val (.int p6), .val (.int (own_l2 p1 p3 p5)), .val (.int (own_c2 p2 p4 p5)), .val (.ref z44), .val (.ref z47), .val (.ref b48), .val (.ref b51), .val (.ref s53), .val (.ref b54), .unset, .unset, .unset, .unset] [(.int (own_l2 p1 p3 p5)), (.ref b59), (.ref b59), (.ref z47), (.ref b58), (.ref b58)])) (fun _ kst => XS.iload X59.here hx rfl (hb hby at_153) rfl kst) ?_
      refine oS (u' := T59.setTop (mkF m 157 #[.val (.int p1), .val (.int p2), .val (.int p3), .val (.int p4), .val (.int p5), .val (.int p6), .val (.int (own_l2 p1 p3 p5)), .val (.int (own_c2 p2 p4 p5)), .val (.ref z44), .val (.ref z47), .val (.ref b48), .val (.ref b51), .val (.ref s53), .val (.ref b54), .unset, .unset, .unset, .unset] [(.int (own_c2 p2 p4 p5)), (.int (own_l2 p1 p3 p5)), (.ref b59), (.ref b59), (.ref z47), (.ref b58), (.ref b58)])) (fun _ kst => XS.iload X59.here hx rfl (hb hby at_155) rfl kst) ?_
      obtain ⟨v60, T60, L60, X60, hQ60, st60⟩ := own_callI X59 hx hZ (y := (⟨"com/example/demitasse/demitasse/source/Position", "<init>", "(II)V"⟩ : MethodName)) rfl hown (hw _ (List.mem_of_getElem? (i := 53) rfl)) (hw _ (List.mem_of_getElem? (i := 54) rfl)) (hw _ (List.mem_of_getElem? (i := 55) rfl)) (hw _ (List.mem_of_getElem? (i := 52) rfl)) (by decide) e59 (W := 4) (own_rm_posinit l Z a0 hw b59 (own_l2 p1 p3 p5) (own_c2 p2 p4 p5) h59 n0 Z59 A59 f59_F_line f59_F_column gb_b59) (by decide) (by decide) (g := (mkF m 157 #[.val (.int p1), .val (.int p2), .val (.int p3), .val (.int p4), .val (.int p5), .val (.int p6), .val (.int (own_l2 p1 p3 p5)), .val (.int (own_c2 p2 p4 p5)), .val (.ref z44), .val (.ref z47), .val (.ref b48), .val (.ref b51), .val (.ref s53), .val (.ref b54), .unset, .unset, .unset, .unset] [(.int (own_c2 p2 p4 p5)), (.int (own_l2 p1 p3 p5)), (.ref b59), (.ref b59), (.ref z47), (.ref b58), (.ref b58)])) rfl (by rw [hml]; rfl) (a := b59) (argsL := [(.int (own_l2 p1 p3 p5)), (.int (own_c2 p2 p4 p5))]) (rest := [(.ref b59), (.ref z47), (.ref b58), (.ref b58)]) (lenOf own_pd8 rfl) rfl (by show 2 * 0 + _ ≤ _; exact Nat.le_of_eq rfl) (hb hby at_157) (by decide) (by decide)
      obtain ⟨rfl, Nq60, Kq60, Fl60, Fc60⟩ := hQ60
      have f60_A_b48 := f59_A_b48.keep Kq60 (ninS ne_b48_b59 nin0)
      have f60_E_b51 := f59_E_b51.keep Kq60
      have f60_F_b51_coder := f59_F_b51_coder.keep Kq60 (ninS ne_b51_b59 nin0)
      have f60_F_b51_value := f59_F_b51_value.keep Kq60 (ninS ne_b51_b59 nin0)
      have f60_V_t52 := f59_V_t52.keep Kq60 (ninS ne_t52_b59 nin0)
      have f60_E_s53 := f59_E_s53.keep Kq60
      have f60_E_b54 := f59_E_b54.keep Kq60
      have f60_E_b55 := f59_E_b55.keep Kq60
      have f60_F_b55_line := f59_F_b55_line.keep Kq60 (ninS ne_b55_b59 nin0)
      have f60_F_b55_column := f59_F_b55_column.keep Kq60 (ninS ne_b55_b59 nin0)
      have f60_F_b54_kind := f59_F_b54_kind.keep Kq60 (ninS ne_b54_b59 nin0)
      have f60_F_b54_position := f59_F_b54_position.keep Kq60 (ninS ne_b54_b59 nin0)
      have f60_F_b54_message := f59_F_b54_message.keep Kq60 (ninS ne_b54_b59 nin0)
      have f60_E_b58 := f59_E_b58.keep Kq60
      have f60_F_b58_kind := f59_F_b58_kind.keep Kq60 (ninS ne_b58_b59 nin0)
      have f60_F_b58_position := f59_F_b58_position.keep Kq60 (ninS ne_b58_b59 nin0)
      have f60_F_b58_message := f59_F_b58_message.keep Kq60 (ninS ne_b58_b59 nin0)
      have f60_E_b59 := A59.keep Kq60
      have K60 := K59.trans Kq60 (allS (Or.inr sz_b59) all0)
      have Z60 := Nat.le_trans Z59 Kq60.1
      have N60 := Fr.app N57 Nq60
      refine oS (u' := T60.setTop (mkF m 160 #[.val (.int p1), .val (.int p2), .val (.int p3), .val (.int p4), .val (.int p5), .val (.int p6), .val (.int (own_l2 p1 p3 p5)), .val (.int (own_c2 p2 p4 p5)), .val (.ref z44), .val (.ref z47), .val (.ref b48), .val (.ref b51), .val (.ref s53), .val (.ref b54), .unset, .unset, .unset, .unset] [(.ref b59), (.ref z47), (.ref b58), (.ref b58)])) st60 ?_
      refine oS (u' := T60.setTop (mkF m 162 #[.val (.int p1), .val (.int p2), .val (.int p3), .val (.int p4), .val (.int p5), .val (.int p6), .val (.int (own_l2 p1 p3 p5)), .val (.int (own_c2 p2 p4 p5)), .val (.ref z44), .val (.ref z47), .val (.ref b48), .val (.ref b51), .val (.ref s53), .val (.ref b54), .unset, .unset, .unset, .unset] [(.ref s53), (.ref b59), (.ref z47), (.ref b58), (.ref b58)])) (fun _ kst => XS.aload X60.here hx rfl (hb hby at_160) rfl rfl kst) ?_
      obtain ⟨v61, T61, L61, X61, hQ61, st61⟩ := own_callI X60 hx hZ (y := (⟨"com/example/demitasse/demitasse/source/Diagnostic", "<init>", "(Lcom/example/demitasse/demitasse/source/Diagnostic$Kind;Lcom/example/demitasse/demitasse/source/Position;Ljava/lang/String;)V"⟩ : MethodName)) rfl hown (hw _ (List.mem_of_getElem? (i := 66) rfl)) (hw _ (List.mem_of_getElem? (i := 67) rfl)) (hw _ (List.mem_of_getElem? (i := 68) rfl)) (hw _ (List.mem_of_getElem? (i := 49) rfl)) (by decide) rfl (W := 1) (own_rm_dinit l Z a0 hw b58 z47 b59 s53 T60.heap n0 Z60 f60_E_b58 f60_F_b58_kind f60_F_b58_position f60_F_b58_message gb_b58) (by decide) (by decide) (g := (mkF m 162 #[.val (.int p1), .val (.int p2), .val (.int p3), .val (.int p4), .val (.int p5), .val (.int p6), .val (.int (own_l2 p1 p3 p5)), .val (.int (own_c2 p2 p4 p5)), .val (.ref z44), .val (.ref z47), .val (.ref b48), .val (.ref b51), .val (.ref s53), .val (.ref b54), .unset, .unset, .unset, .unset] [(.ref s53), (.ref b59), (.ref z47), (.ref b58), (.ref b58)])) rfl (by rw [hml]; rfl) (a := b58) (argsL := [(.ref z47), (.ref b59), (.ref s53)]) (rest := [(.ref b58)]) (lenOf own_pd9 rfl) rfl (by show 2 * 0 + _ ≤ _; exact Nat.le_of_eq rfl) (hb hby at_162) (by decide) (by decide)
      obtain ⟨rfl, Nq61, Kq61, Fk61, Fp61, Fm61⟩ := hQ61
      have f61_A_b48 := f60_A_b48.keep Kq61 (ninS ne_b48_b58 nin0)
      have f61_E_b51 := f60_E_b51.keep Kq61
      have f61_F_b51_coder := f60_F_b51_coder.keep Kq61 (ninS ne_b51_b58 nin0)
      have f61_F_b51_value := f60_F_b51_value.keep Kq61 (ninS ne_b51_b58 nin0)
      have f61_V_t52 := f60_V_t52.keep Kq61 (ninS ne_t52_b58 nin0)
      have f61_E_s53 := f60_E_s53.keep Kq61
      have f61_E_b54 := f60_E_b54.keep Kq61
      have f61_E_b55 := f60_E_b55.keep Kq61
      have f61_F_b55_line := f60_F_b55_line.keep Kq61 (ninS ne_b55_b58 nin0)
      have f61_F_b55_column := f60_F_b55_column.keep Kq61 (ninS ne_b55_b58 nin0)
      have f61_F_b54_kind := f60_F_b54_kind.keep Kq61 (ninS ne_b54_b58 nin0)
      have f61_F_b54_position := f60_F_b54_position.keep Kq61 (ninS ne_b54_b58 nin0)
      have f61_F_b54_message := f60_F_b54_message.keep Kq61 (ninS ne_b54_b58 nin0)
      have f61_E_b58 := f60_E_b58.keep Kq61
      have f61_E_b59 := f60_E_b59.keep Kq61
      have f61_F_b59_line := Fl60.keep Kq61 (ninS (Ne.symm ne_b58_b59) nin0)
      have f61_F_b59_column := Fc60.keep Kq61 (ninS (Ne.symm ne_b58_b59) nin0)
      have K61 := K60.trans Kq61 (allS (Or.inr sz_b58) all0)
      have Z61 := Nat.le_trans Z60 Kq61.1
      have N61 := Fr.app N60 Nq61
      refine oS (u' := T61.setTop (mkF m 165 #[.val (.int p1), .val (.int p2), .val (.int p3), .val (.int p4), .val (.int p5), .val (.int p6), .val (.int (own_l2 p1 p3 p5)), .val (.int (own_c2 p2 p4 p5)), .val (.ref z44), .val (.ref z47), .val (.ref b48), .val (.ref b51), .val (.ref s53), .val (.ref b54), .unset, .unset, .unset, .unset] [(.ref b58)])) st61 ?_
      refine oS (u' := T61.setTop (mkF m 167 #[.val (.int p1), .val (.int p2), .val (.int p3), .val (.int p4), .val (.int p5), .val (.int p6), .val (.int (own_l2 p1 p3 p5)), .val (.int (own_c2 p2 p4 p5)), .val (.ref z44), .val (.ref z47), .val (.ref b48), .val (.ref b51), .val (.ref s53), .val (.ref b54), .val (.ref b58), .unset, .unset, .unset] [])) (fun _ kst => XS.astore X61.here hx rfl (hb hby at_165) rfl rfl (l' := #[.val (.int p1), .val (.int p2), .val (.int p3), .val (.int p4), .val (.int p5), .val (.int p6), .val (.int (own_l2 p1 p3 p5)), .val (.int (own_c2 p2 p4 p5)), .val (.ref z44), .val (.ref z47), .val (.ref b48), .val (.ref b51), .val (.ref s53), .val (.ref b54), .val (.ref b58), .unset, .unset, .unset]) rfl kst) ?_
      refine oS (u' := T61.setTop (mkF m 168 #[.val (.int p1), .val (.int p2), .val (.int p3), .val (.int p4), .val (.int p5), .val (.int p6), .val (.int (own_l2 p1 p3 p5)), .val (.int (own_c2 p2 p4 p5)), .val (.ref z44), .val (.ref z47), .val (.ref b48), .val (.ref b51), .val (.ref s53), .val (.ref b54), .val (.ref b58), .unset, .unset, .unset] [(.int p1)])) (fun _ kst => XS.iloadN X61.here hx rfl (hb hby at_167) rfl kst) ?_
      refine oS (u' := T61.setTop (mkF m 169 #[.val (.int p1), .val (.int p2), .val (.int p3), .val (.int p4), .val (.int p5), .val (.int p6), .val (.int (own_l2 p1 p3 p5)), .val (.int (own_c2 p2 p4 p5)), .val (.ref z44), .val (.ref z47), .val (.ref b48), .val (.ref b51), .val (.ref s53), .val (.ref b54), .val (.ref b58), .unset, .unset, .unset] [(.int p2), (.int p1)])) (fun _ kst => XS.iloadN X61.here hx rfl (hb hby at_168) rfl kst) ?_
      refine oS (u' := T61.setTop (mkF m 171 #[.val (.int p1), .val (.int p2), .val (.int p3), .val (.int p4), .val (.int p5), .val (.int p6), .val (.int (own_l2 p1 p3 p5)), .val (.int (own_c2 p2 p4 p5)), .val (.ref z44), .val (.ref z47), .val (.ref b48), .val (.ref b51), .val (.ref s53), .val (.ref b54), .val (.ref b58), .unset, .unset, .unset] [(.int (own_l2 p1 p3 p5)), (.int p2), (.int p1)])) (fun _ kst => XS.iload X61.here hx rfl (hb hby at_169) rfl kst) ?_
      refine oS (u' := T61.setTop (mkF m 173 #[.val (.int p1), .val (.int p2), .val (.int p3), .val (.int p4), .val (.int p5), .val (.int p6), .val (.int (own_l2 p1 p3 p5)), .val (.int (own_c2 p2 p4 p5)), .val (.ref z44), .val (.ref z47), .val (.ref b48), .val (.ref b51), .val (.ref s53), .val (.ref b54), .val (.ref b58), .unset, .unset, .unset] [(.int (own_c2 p2 p4 p5)), (.int (own_l2 p1 p3 p5)), (.int p2), (.int p1)])) (fun _ kst => XS.iload X61.here hx rfl (hb hby at_171) rfl kst) ?_
      obtain ⟨T62, X62, e62, st62⟩ := own_callSP X61 hx hZ (y := (⟨"com/example/demitasse/demitasse/source/DiagnosticCompareToPinLaw", "expectedSign", "(IIII)I"⟩ : MethodName)) hown (hw _ (List.mem_of_getElem? (i := 76) rfl)) (hw _ (List.mem_of_getElem? (i := 77) rfl)) (hw _ (List.mem_of_getElem? (i := 79) rfl)) (hw _ (List.mem_of_getElem? (i := 78) rfl)) (by decide) rfl (W := 0) (own_rm_es l Z a0 hw p1 p2 (own_l2 p1 p3 p5) (own_c2 p2 p4 p5) T61.heap ) (by decide) (by decide) (g := (mkF m 173 #[.val (.int p1), .val (.int p2), .val (.int p3), .val (.int p4), .val (.int p5), .val (.int p6), .val (.int (own_l2 p1 p3 p5)), .val (.int (own_c2 p2 p4 p5)), .val (.ref z44), .val (.ref z47), .val (.ref b48), .val (.ref b51), .val (.ref s53), .val (.ref b54), .val (.ref b58), .unset, .unset, .unset] [(.int (own_c2 p2 p4 p5)), (.int (own_l2 p1 p3 p5)), (.int p2), (.int p1)])) rfl (by rw [hml]; rfl) (argsL := [(.int p1), (.int p2), (.int (own_l2 p1 p3 p5)), (.int (own_c2 p2 p4 p5))]) (rest := []) (lenOf own_pd10 rfl) rfl (by show 2 * 0 + _ ≤ _; exact Nat.le_of_eq rfl) (hb hby at_173) (by decide) (by decide)
      refine oS (u' := T62.setTop (mkF m 176 #[.val (.int p1), .val (.int p2), .val (.int p3), .val (.int p4), .val (.int p5), .val (.int p6), .val (.int (own_l2 p1 p3 p5)), .val (.int (own_c2 p2 p4 p5)), .val (.ref z44), .val (.ref z47), .val (.ref b48), .val (.ref b51), .val (.ref s53), .val (.ref b54), .val (.ref b58), .unset, .unset, .unset] [(.int (own_es p1 p2 (own_l2 p1 p3 p5) (own_c2 p2 p4 p5)))])) st62 ?_
      refine oS (u' := T62.setTop (mkF m 178 #[.val (.int p1), .val (.int p2), .val (.int p3), .val (.int p4), .val (.int p5), .val (.int p6), .val (.int (own_l2 p1 p3 p5)), .val (.int (own_c2 p2 p4 p5)), .val (.ref z44), .val (.ref z47), .val (.ref b48), .val (.ref b51), .val (.ref s53), .val (.ref b54), .val (.ref b58), .val (.int (own_es p1 p2 (own_l2 p1 p3 p5) (own_c2 p2 p4 p5))), .unset, .unset] [])) (fun _ kst => XS.istore X62.here hx rfl (hb hby at_176) rfl (l' := #[.val (.int p1), .val (.int p2), .val (.int p3), .val (.int p4), .val (.int p5), .val (.int p6), .val (.int (own_l2 p1 p3 p5)), .val (.int (own_c2 p2 p4 p5)), .val (.ref z44), .val (.ref z47), .val (.ref b48), .val (.ref b51), .val (.ref s53), .val (.ref b54), .val (.ref b58), .val (.int (own_es p1 p2 (own_l2 p1 p3 p5) (own_c2 p2 p4 p5))), .unset, .unset]) rfl kst) ?_
      refine oS (u' := T62.setTop (mkF m 180 #[.val (.int p1), .val (.int p2), .val (.int p3), .val (.int p4), .val (.int p5), .val (.int p6), .val (.int (own_l2 p1 p3 p5)), .val (.int (own_c2 p2 p4 p5)), .val (.ref z44), .val (.ref z47), .val (.ref b48), .val (.ref b51), .val (.ref s53), .val (.ref b54), .val (.ref b58), .val (.int (own_es p1 p2 (own_l2 p1 p3 p5) (own_c2 p2 p4 p5))), .unset, .unset] [(.ref b54)])) (fun _ kst => XS.aload X62.here hx rfl (hb hby at_178) rfl rfl kst) ?_
      refine oS (u' := T62.setTop (mkF m 182 #[.val (.int p1), .val (.int p2), .val (.int p3), .val (.int p4), .val (.int p5), .val (.int p6), .val (.int (own_l2 p1 p3 p5)), .val (.int (own_c2 p2 p4 p5)), .val (.ref z44), .val (.ref z47), .val (.ref b48), .val (.ref b51), .val (.ref s53), .val (.ref b54), .val (.ref b58), .val (.int (own_es p1 p2 (own_l2 p1 p3 p5) (own_c2 p2 p4 p5))), .unset, .unset] [(.ref b58), (.ref b54)])) (fun _ kst => XS.aload X62.here hx rfl (hb hby at_180) rfl rfl kst) ?_
      obtain ⟨T63, X63, e63, st63⟩ := own_callVP X62 hx hZ (y := (⟨"com/example/demitasse/demitasse/source/Diagnostic", "compareTo", "(Lcom/example/demitasse/demitasse/source/Diagnostic;)I"⟩ : MethodName)) (z := (⟨"com/example/demitasse/demitasse/source/Diagnostic", "compareTo", "(Lcom/example/demitasse/demitasse/source/Diagnostic;)I"⟩ : MethodName)) hown (hw _ (List.mem_of_getElem? (i := 80) rfl)) (hw _ (List.mem_of_getElem? (i := 81) rfl)) (notFace_of_selects (args := #[]) (mvT hZ (hw _ (List.mem_of_getElem? (i := 83) rfl)))) (hw _ (List.mem_of_getElem? (i := 83) rfl)) (hw _ (List.mem_of_getElem? (i := 82) rfl)) (by decide) e62 f61_E_b54 (W := 0) (own_rm_dto l Z a0 hw b54 b58 b55 b59 p1 p2 (own_l2 p1 p3 p5) (own_c2 p2 p4 p5) T61.heap f61_F_b54_position Fp61 f61_E_b55 f61_F_b55_line f61_F_b55_column f61_F_b59_line f61_F_b59_column) (hw _ (List.mem_of_getElem? (i := 84) rfl)) (hw _ (List.mem_of_getElem? (i := 49) rfl)) (by decide) (by decide) (g := (mkF m 182 #[.val (.int p1), .val (.int p2), .val (.int p3), .val (.int p4), .val (.int p5), .val (.int p6), .val (.int (own_l2 p1 p3 p5)), .val (.int (own_c2 p2 p4 p5)), .val (.ref z44), .val (.ref z47), .val (.ref b48), .val (.ref b51), .val (.ref s53), .val (.ref b54), .val (.ref b58), .val (.int (own_es p1 p2 (own_l2 p1 p3 p5) (own_c2 p2 p4 p5))), .unset, .unset] [(.ref b58), (.ref b54)])) rfl (by rw [hml]; rfl) (b := b54) (argsL := [(.ref b58)]) (rest := []) (lenOf own_pd11 rfl) rfl (by show 2 * 0 + _ ≤ _; exact Nat.le_of_eq rfl) (hb hby at_182) (by decide) (by decide)
      refine oS (u' := T63.setTop (mkF m 185 #[.val (.int p1), .val (.int p2), .val (.int p3), .val (.int p4), .val (.int p5), .val (.int p6), .val (.int (own_l2 p1 p3 p5)), .val (.int (own_c2 p2 p4 p5)), .val (.ref z44), .val (.ref z47), .val (.ref b48), .val (.ref b51), .val (.ref s53), .val (.ref b54), .val (.ref b58), .val (.int (own_es p1 p2 (own_l2 p1 p3 p5) (own_c2 p2 p4 p5))), .unset, .unset] [(.int (own_dto b54 b58 b55 b59 p1 p2 (own_l2 p1 p3 p5) (own_c2 p2 p4 p5)))])) st63 ?_
      refine oS (u' := T63.setTop (mkF m 187 #[.val (.int p1), .val (.int p2), .val (.int p3), .val (.int p4), .val (.int p5), .val (.int p6), .val (.int (own_l2 p1 p3 p5)), .val (.int (own_c2 p2 p4 p5)), .val (.ref z44), .val (.ref z47), .val (.ref b48), .val (.ref b51), .val (.ref s53), .val (.ref b54), .val (.ref b58), .val (.int (own_es p1 p2 (own_l2 p1 p3 p5) (own_c2 p2 p4 p5))), .val (.int (own_dto b54 b58 b55 b59 p1 p2 (own_l2 p1 p3 p5) (own_c2 p2 p4 p5))), .unset] [])) (fun _ kst => XS.istore X63.here hx rfl (hb hby at_185) rfl (l' := #[.val (.int p1), .val (.int p2), .val (.int p3), .val (.int p4), .val (.int p5), .val (.int p6), .val (.int (own_l2 p1 p3 p5)), .val (.int (own_c2 p2 p4 p5)), .val (.ref z44), .val (.ref z47), .val (.ref b48), .val (.ref b51), .val (.ref s53), .val (.ref b54), .val (.ref b58), .val (.int (own_es p1 p2 (own_l2 p1 p3 p5) (own_c2 p2 p4 p5))), .val (.int (own_dto b54 b58 b55 b59 p1 p2 (own_l2 p1 p3 p5) (own_c2 p2 p4 p5))), .unset]) rfl kst) ?_
      refine oS (u' := T63.setTop (mkF m 189 #[.val (.int p1), .val (.int p2), .val (.int p3), .val (.int p4), .val (.int p5), .val (.int p6), .val (.int (own_l2 p1 p3 p5)), .val (.int (own_c2 p2 p4 p5)), .val (.ref z44), .val (.ref z47), .val (.ref b48), .val (.ref b51), .val (.ref s53), .val (.ref b54), .val (.ref b58), .val (.int (own_es p1 p2 (own_l2 p1 p3 p5) (own_c2 p2 p4 p5))), .val (.int (own_dto b54 b58 b55 b59 p1 p2 (own_l2 p1 p3 p5) (own_c2 p2 p4 p5))), .unset] [(.ref b58)])) (fun _ kst => XS.aload X63.here hx rfl (hb hby at_187) rfl rfl kst) ?_
      refine oS (u' := T63.setTop (mkF m 191 #[.val (.int p1), .val (.int p2), .val (.int p3), .val (.int p4), .val (.int p5), .val (.int p6), .val (.int (own_l2 p1 p3 p5)), .val (.int (own_c2 p2 p4 p5)), .val (.ref z44), .val (.ref z47), .val (.ref b48), .val (.ref b51), .val (.ref s53), .val (.ref b54), .val (.ref b58), .val (.int (own_es p1 p2 (own_l2 p1 p3 p5) (own_c2 p2 p4 p5))), .val (.int (own_dto b54 b58 b55 b59 p1 p2 (own_l2 p1 p3 p5) (own_c2 p2 p4 p5))), .unset] [(.ref b54), (.ref b58)])) (fun _ kst => XS.aload X63.here hx rfl (hb hby at_189) rfl rfl kst) ?_
      obtain ⟨T64, X64, e64, st64⟩ := own_callVP X63 hx hZ (y := (⟨"com/example/demitasse/demitasse/source/Diagnostic", "compareTo", "(Lcom/example/demitasse/demitasse/source/Diagnostic;)I"⟩ : MethodName)) (z := (⟨"com/example/demitasse/demitasse/source/Diagnostic", "compareTo", "(Lcom/example/demitasse/demitasse/source/Diagnostic;)I"⟩ : MethodName)) hown (hw _ (List.mem_of_getElem? (i := 80) rfl)) (hw _ (List.mem_of_getElem? (i := 81) rfl)) (notFace_of_selects (args := #[]) (mvT hZ (hw _ (List.mem_of_getElem? (i := 83) rfl)))) (hw _ (List.mem_of_getElem? (i := 83) rfl)) (hw _ (List.mem_of_getElem? (i := 82) rfl)) (by decide) e63 f61_E_b58 (W := 0) (own_rm_dto l Z a0 hw b58 b54 b59 b55 (own_l2 p1 p3 p5) (own_c2 p2 p4 p5) p1 p2 T61.heap Fp61 f61_F_b54_position f61_E_b59 f61_F_b59_line f61_F_b59_column f61_F_b55_line f61_F_b55_column) (hw _ (List.mem_of_getElem? (i := 84) rfl)) (hw _ (List.mem_of_getElem? (i := 49) rfl)) (by decide) (by decide) (g := (mkF m 191 #[.val (.int p1), .val (.int p2), .val (.int p3), .val (.int p4), .val (.int p5), .val (.int p6), .val (.int (own_l2 p1 p3 p5)), .val (.int (own_c2 p2 p4 p5)), .val (.ref z44), .val (.ref z47), .val (.ref b48), .val (.ref b51), .val (.ref s53), .val (.ref b54), .val (.ref b58), .val (.int (own_es p1 p2 (own_l2 p1 p3 p5) (own_c2 p2 p4 p5))), .val (.int (own_dto b54 b58 b55 b59 p1 p2 (own_l2 p1 p3 p5) (own_c2 p2 p4 p5))), .unset] [(.ref b54), (.ref b58)])) rfl (by rw [hml]; rfl) (b := b58) (argsL := [(.ref b54)]) (rest := []) (lenOf own_pd11 rfl) rfl (by show 2 * 0 + _ ≤ _; exact Nat.le_of_eq rfl) (hb hby at_191) (by decide) (by decide)
      refine oS (u' := T64.setTop (mkF m 194 #[.val (.int p1), .val (.int p2), .val (.int p3), .val (.int p4), .val (.int p5), .val (.int p6), .val (.int (own_l2 p1 p3 p5)), .val (.int (own_c2 p2 p4 p5)), .val (.ref z44), .val (.ref z47), .val (.ref b48), .val (.ref b51), .val (.ref s53), .val (.ref b54), .val (.ref b58), .val (.int (own_es p1 p2 (own_l2 p1 p3 p5) (own_c2 p2 p4 p5))), .val (.int (own_dto b54 b58 b55 b59 p1 p2 (own_l2 p1 p3 p5) (own_c2 p2 p4 p5))), .unset] [(.int (own_dto b58 b54 b59 b55 (own_l2 p1 p3 p5) (own_c2 p2 p4 p5) p1 p2))])) st64 ?_
      refine oS (u' := T64.setTop (mkF m 196 #[.val (.int p1), .val (.int p2), .val (.int p3), .val (.int p4), .val (.int p5), .val (.int p6), .val (.int (own_l2 p1 p3 p5)), .val (.int (own_c2 p2 p4 p5)), .val (.ref z44), .val (.ref z47), .val (.ref b48), .val (.ref b51), .val (.ref s53), .val (.ref b54), .val (.ref b58), .val (.int (own_es p1 p2 (own_l2 p1 p3 p5) (own_c2 p2 p4 p5))), .val (.int (own_dto b54 b58 b55 b59 p1 p2 (own_l2 p1 p3 p5) (own_c2 p2 p4 p5))), .val (.int (own_dto b58 b54 b59 b55 (own_l2 p1 p3 p5) (own_c2 p2 p4 p5) p1 p2))] [])) (fun _ kst => XS.istore X64.here hx rfl (hb hby at_194) rfl (l' := #[.val (.int p1), .val (.int p2), .val (.int p3), .val (.int p4), .val (.int p5), .val (.int p6), .val (.int (own_l2 p1 p3 p5)), .val (.int (own_c2 p2 p4 p5)), .val (.ref z44), .val (.ref z47), .val (.ref b48), .val (.ref b51), .val (.ref s53), .val (.ref b54), .val (.ref b58), .val (.int (own_es p1 p2 (own_l2 p1 p3 p5) (own_c2 p2 p4 p5))), .val (.int (own_dto b54 b58 b55 b59 p1 p2 (own_l2 p1 p3 p5) (own_c2 p2 p4 p5))), .val (.int (own_dto b58 b54 b59 b55 (own_l2 p1 p3 p5) (own_c2 p2 p4 p5) p1 p2))]) rfl kst) ?_
      refine oS (u' := T64.setTop (mkF m 198 #[.val (.int p1), .val (.int p2), .val (.int p3), .val (.int p4), .val (.int p5), .val (.int p6), .val (.int (own_l2 p1 p3 p5)), .val (.int (own_c2 p2 p4 p5)), .val (.ref z44), .val (.ref z47), .val (.ref b48), .val (.ref b51), .val (.ref s53), .val (.ref b54), .val (.ref b58), .val (.int (own_es p1 p2 (own_l2 p1 p3 p5) (own_c2 p2 p4 p5))), .val (.int (own_dto b54 b58 b55 b59 p1 p2 (own_l2 p1 p3 p5) (own_c2 p2 p4 p5))), .val (.int (own_dto b58 b54 b59 b55 (own_l2 p1 p3 p5) (own_c2 p2 p4 p5) p1 p2))] [(.int (own_dto b54 b58 b55 b59 p1 p2 (own_l2 p1 p3 p5) (own_c2 p2 p4 p5)))])) (fun _ kst => XS.iload X64.here hx rfl (hb hby at_196) rfl kst) ?_
      obtain ⟨T65, X65, e65, st65⟩ := own_callSP X64 hx hZ (y := (⟨"com/example/demitasse/demitasse/source/DiagnosticCompareToPinLaw", "sign", "(I)I"⟩ : MethodName)) hown (hw _ (List.mem_of_getElem? (i := 94) rfl)) (hw _ (List.mem_of_getElem? (i := 95) rfl)) (hw _ (List.mem_of_getElem? (i := 96) rfl)) (hw _ (List.mem_of_getElem? (i := 78) rfl)) (by decide) e64 (W := 0) (own_rm_sign l Z a0 hw (own_dto b54 b58 b55 b59 p1 p2 (own_l2 p1 p3 p5) (own_c2 p2 p4 p5)) T61.heap ) (by decide) (by decide) (g := (mkF m 198 #[.val (.int p1), .val (.int p2), .val (.int p3), .val (.int p4), .val (.int p5), .val (.int p6), .val (.int (own_l2 p1 p3 p5)), .val (.int (own_c2 p2 p4 p5)), .val (.ref z44), .val (.ref z47), .val (.ref b48), .val (.ref b51), .val (.ref s53), .val (.ref b54), .val (.ref b58), .val (.int (own_es p1 p2 (own_l2 p1 p3 p5) (own_c2 p2 p4 p5))), .val (.int (own_dto b54 b58 b55 b59 p1 p2 (own_l2 p1 p3 p5) (own_c2 p2 p4 p5))), .val (.int (own_dto b58 b54 b59 b55 (own_l2 p1 p3 p5) (own_c2 p2 p4 p5) p1 p2))] [(.int (own_dto b54 b58 b55 b59 p1 p2 (own_l2 p1 p3 p5) (own_c2 p2 p4 p5)))])) rfl (by rw [hml]; rfl) (argsL := [(.int (own_dto b54 b58 b55 b59 p1 p2 (own_l2 p1 p3 p5) (own_c2 p2 p4 p5)))]) (rest := []) (lenOf own_pd12 rfl) rfl (by show 2 * 0 + _ ≤ _; exact Nat.le_of_eq rfl) (hb hby at_198) (by decide) (by decide)
      refine oS (u' := T65.setTop (mkF m 201 #[.val (.int p1), .val (.int p2), .val (.int p3), .val (.int p4), .val (.int p5), .val (.int p6), .val (.int (own_l2 p1 p3 p5)), .val (.int (own_c2 p2 p4 p5)), .val (.ref z44), .val (.ref z47), .val (.ref b48), .val (.ref b51), .val (.ref s53), .val (.ref b54), .val (.ref b58), .val (.int (own_es p1 p2 (own_l2 p1 p3 p5) (own_c2 p2 p4 p5))), .val (.int (own_dto b54 b58 b55 b59 p1 p2 (own_l2 p1 p3 p5) (own_c2 p2 p4 p5))), .val (.int (own_dto b58 b54 b59 b55 (own_l2 p1 p3 p5) (own_c2 p2 p4 p5) p1 p2))] [(.int (own_sign (own_dto b54 b58 b55 b59 p1 p2 (own_l2 p1 p3 p5) (own_c2 p2 p4 p5))))])) st65 ?_
      refine oS (u' := T65.setTop (mkF m 203 #[.val (.int p1), .val (.int p2), .val (.int p3), .val (.int p4), .val (.int p5), .val (.int p6), .val (.int (own_l2 p1 p3 p5)), .val (.int (own_c2 p2 p4 p5)), .val (.ref z44), .val (.ref z47), .val (.ref b48), .val (.ref b51), .val (.ref s53), .val (.ref b54), .val (.ref b58), .val (.int (own_es p1 p2 (own_l2 p1 p3 p5) (own_c2 p2 p4 p5))), .val (.int (own_dto b54 b58 b55 b59 p1 p2 (own_l2 p1 p3 p5) (own_c2 p2 p4 p5))), .val (.int (own_dto b58 b54 b59 b55 (own_l2 p1 p3 p5) (own_c2 p2 p4 p5) p1 p2))] [(.int (own_es p1 p2 (own_l2 p1 p3 p5) (own_c2 p2 p4 p5))), (.int (own_sign (own_dto b54 b58 b55 b59 p1 p2 (own_l2 p1 p3 p5) (own_c2 p2 p4 p5))))])) (fun _ kst => XS.iload X65.here hx rfl (hb hby at_201) rfl kst) ?_
      refine oS (u' := T65.setTop (mkF m 206 #[.val (.int p1), .val (.int p2), .val (.int p3), .val (.int p4), .val (.int p5), .val (.int p6), .val (.int (own_l2 p1 p3 p5)), .val (.int (own_c2 p2 p4 p5)), .val (.ref z44), .val (.ref z47), .val (.ref b48), .val (.ref b51), .val (.ref s53), .val (.ref b54), .val (.ref b58), .val (.int (own_es p1 p2 (own_l2 p1 p3 p5) (own_c2 p2 p4 p5))), .val (.int (own_dto b54 b58 b55 b59 p1 p2 (own_l2 p1 p3 p5) (own_c2 p2 p4 p5))), .val (.int (own_dto b58 b54 b59 b55 (own_l2 p1 p3 p5) (own_c2 p2 p4 p5) p1 p2))] [])) (fun _ kst => XS.icmpNo X65.here hx rfl (hb hby at_203) rfl (teq (own_ok _ _ _ _ _ _ _ _)).2 kst) ?_
      refine oS (u' := T65.setTop (mkF m 208 #[.val (.int p1), .val (.int p2), .val (.int p3), .val (.int p4), .val (.int p5), .val (.int p6), .val (.int (own_l2 p1 p3 p5)), .val (.int (own_c2 p2 p4 p5)), .val (.ref z44), .val (.ref z47), .val (.ref b48), .val (.ref b51), .val (.ref s53), .val (.ref b54), .val (.ref b58), .val (.int (own_es p1 p2 (own_l2 p1 p3 p5) (own_c2 p2 p4 p5))), .val (.int (own_dto b54 b58 b55 b59 p1 p2 (own_l2 p1 p3 p5) (own_c2 p2 p4 p5))), .val (.int (own_dto b58 b54 b59 b55 (own_l2 p1 p3 p5) (own_c2 p2 p4 p5) p1 p2))] [(.int (own_dto b58 b54 b59 b55 (own_l2 p1 p3 p5) (own_c2 p2 p4 p5) p1 p2))])) (fun _ kst => XS.iload X65.here hx rfl (hb hby at_206) rfl kst) ?_
      obtain ⟨T66, X66, e66, st66⟩ := own_callSP X65 hx hZ (y := (⟨"com/example/demitasse/demitasse/source/DiagnosticCompareToPinLaw", "sign", "(I)I"⟩ : MethodName)) hown (hw _ (List.mem_of_getElem? (i := 94) rfl)) (hw _ (List.mem_of_getElem? (i := 95) rfl)) (hw _ (List.mem_of_getElem? (i := 96) rfl)) (hw _ (List.mem_of_getElem? (i := 78) rfl)) (by decide) e65 (W := 0) (own_rm_sign l Z a0 hw (own_dto b58 b54 b59 b55 (own_l2 p1 p3 p5) (own_c2 p2 p4 p5) p1 p2) T61.heap ) (by decide) (by decide) (g := (mkF m 208 #[.val (.int p1), .val (.int p2), .val (.int p3), .val (.int p4), .val (.int p5), .val (.int p6), .val (.int (own_l2 p1 p3 p5)), .val (.int (own_c2 p2 p4 p5)), .val (.ref z44), .val (.ref z47), .val (.ref b48), .val (.ref b51), .val (.ref s53), .val (.ref b54), .val (.ref b58), .val (.int (own_es p1 p2 (own_l2 p1 p3 p5) (own_c2 p2 p4 p5))), .val (.int (own_dto b54 b58 b55 b59 p1 p2 (own_l2 p1 p3 p5) (own_c2 p2 p4 p5))), .val (.int (own_dto b58 b54 b59 b55 (own_l2 p1 p3 p5) (own_c2 p2 p4 p5) p1 p2))] [(.int (own_dto b58 b54 b59 b55 (own_l2 p1 p3 p5) (own_c2 p2 p4 p5) p1 p2))])) rfl (by rw [hml]; rfl) (argsL := [(.int (own_dto b58 b54 b59 b55 (own_l2 p1 p3 p5) (own_c2 p2 p4 p5) p1 p2))]) (rest := []) (lenOf own_pd12 rfl) rfl (by show 2 * 0 + _ ≤ _; exact Nat.le_of_eq rfl) (hb hby at_208) (by decide) (by decide)
      refine oS (u' := T66.setTop (mkF m 211 #[.val (.int p1), .val (.int p2), .val (.int p3), .val (.int p4), .val (.int p5), .val (.int p6), .val (.int (own_l2 p1 p3 p5)), .val (.int (own_c2 p2 p4 p5)), .val (.ref z44), .val (.ref z47), .val (.ref b48), .val (.ref b51), .val (.ref s53), .val (.ref b54), .val (.ref b58), .val (.int (own_es p1 p2 (own_l2 p1 p3 p5) (own_c2 p2 p4 p5))), .val (.int (own_dto b54 b58 b55 b59 p1 p2 (own_l2 p1 p3 p5) (own_c2 p2 p4 p5))), .val (.int (own_dto b58 b54 b59 b55 (own_l2 p1 p3 p5) (own_c2 p2 p4 p5) p1 p2))] [(.int (own_sign (own_dto b58 b54 b59 b55 (own_l2 p1 p3 p5) (own_c2 p2 p4 p5) p1 p2)))])) st66 ?_
      refine oS (u' := T66.setTop (mkF m 213 #[.val (.int p1), .val (.int p2), .val (.int p3), .val (.int p4), .val (.int p5), .val (.int p6), .val (.int (own_l2 p1 p3 p5)), .val (.int (own_c2 p2 p4 p5)), .val (.ref z44), .val (.ref z47), .val (.ref b48), .val (.ref b51), .val (.ref s53), .val (.ref b54), .val (.ref b58), .val (.int (own_es p1 p2 (own_l2 p1 p3 p5) (own_c2 p2 p4 p5))), .val (.int (own_dto b54 b58 b55 b59 p1 p2 (own_l2 p1 p3 p5) (own_c2 p2 p4 p5))), .val (.int (own_dto b58 b54 b59 b55 (own_l2 p1 p3 p5) (own_c2 p2 p4 p5) p1 p2))] [(.int (own_es p1 p2 (own_l2 p1 p3 p5) (own_c2 p2 p4 p5))), (.int (own_sign (own_dto b58 b54 b59 b55 (own_l2 p1 p3 p5) (own_c2 p2 p4 p5) p1 p2)))])) (fun _ kst => XS.iload X66.here hx rfl (hb hby at_211) rfl kst) ?_
      refine oS (u' := T66.setTop (mkF m 214 #[.val (.int p1), .val (.int p2), .val (.int p3), .val (.int p4), .val (.int p5), .val (.int p6), .val (.int (own_l2 p1 p3 p5)), .val (.int (own_c2 p2 p4 p5)), .val (.ref z44), .val (.ref z47), .val (.ref b48), .val (.ref b51), .val (.ref s53), .val (.ref b54), .val (.ref b58), .val (.int (own_es p1 p2 (own_l2 p1 p3 p5) (own_c2 p2 p4 p5))), .val (.int (own_dto b54 b58 b55 b59 p1 p2 (own_l2 p1 p3 p5) (own_c2 p2 p4 p5))), .val (.int (own_dto b58 b54 b59 b55 (own_l2 p1 p3 p5) (own_c2 p2 p4 p5) p1 p2))] [(.int (-(own_es p1 p2 (own_l2 p1 p3 p5) (own_c2 p2 p4 p5)))), (.int (own_sign (own_dto b58 b54 b59 b55 (own_l2 p1 p3 p5) (own_c2 p2 p4 p5) p1 p2)))])) (fun _ kst => XS.ineg X66.here hx rfl (hb hby at_213) rfl kst) ?_
      refine oS (u' := T66.setTop (mkF m 217 #[.val (.int p1), .val (.int p2), .val (.int p3), .val (.int p4), .val (.int p5), .val (.int p6), .val (.int (own_l2 p1 p3 p5)), .val (.int (own_c2 p2 p4 p5)), .val (.ref z44), .val (.ref z47), .val (.ref b48), .val (.ref b51), .val (.ref s53), .val (.ref b54), .val (.ref b58), .val (.int (own_es p1 p2 (own_l2 p1 p3 p5) (own_c2 p2 p4 p5))), .val (.int (own_dto b54 b58 b55 b59 p1 p2 (own_l2 p1 p3 p5) (own_c2 p2 p4 p5))), .val (.int (own_dto b58 b54 b59 b55 (own_l2 p1 p3 p5) (own_c2 p2 p4 p5) p1 p2))] [])) (fun _ kst => XS.icmpNo X66.here hx rfl (hb hby at_214) rfl (teq ((own_ok _ _ _ _ _ _ _ _).trans (own_anti _ _ _ _))).2 kst) ?_
      refine oS (u' := T66.setTop (mkF m 218 #[.val (.int p1), .val (.int p2), .val (.int p3), .val (.int p4), .val (.int p5), .val (.int p6), .val (.int (own_l2 p1 p3 p5)), .val (.int (own_c2 p2 p4 p5)), .val (.ref z44), .val (.ref z47), .val (.ref b48), .val (.ref b51), .val (.ref s53), .val (.ref b54), .val (.ref b58), .val (.int (own_es p1 p2 (own_l2 p1 p3 p5) (own_c2 p2 p4 p5))), .val (.int (own_dto b54 b58 b55 b59 p1 p2 (own_l2 p1 p3 p5) (own_c2 p2 p4 p5))), .val (.int (own_dto b58 b54 b59 b55 (own_l2 p1 p3 p5) (own_c2 p2 p4 p5) p1 p2))] [(.int (1 : Int32))])) (fun _ kst => XS.iconst X66.here hx rfl (hb hby at_217) kst) ?_
      refine oS (u' := T66.setTop (mkF m 222 #[.val (.int p1), .val (.int p2), .val (.int p3), .val (.int p4), .val (.int p5), .val (.int p6), .val (.int (own_l2 p1 p3 p5)), .val (.int (own_c2 p2 p4 p5)), .val (.ref z44), .val (.ref z47), .val (.ref b48), .val (.ref b51), .val (.ref s53), .val (.ref b54), .val (.ref b58), .val (.int (own_es p1 p2 (own_l2 p1 p3 p5) (own_c2 p2 p4 p5))), .val (.int (own_dto b54 b58 b55 b59 p1 p2 (own_l2 p1 p3 p5) (own_c2 p2 p4 p5))), .val (.int (own_dto b58 b54 b59 b55 (own_l2 p1 p3 p5) (own_c2 p2 p4 p5) p1 p2))] [(.int (1 : Int32))])) (fun _ kst => XS.goto X66.here hx rfl (pc0 := 218) (pc' := 222) rfl (hb hby at_218) (by decide) (by decide) kst) ?_
      refine own_retN X66 hx hlk (t := .boolean) hret (by simp) (hb hby at_222) ?_ (by decide) (by decide)
      exact ⟨rfl, N61⟩
    · by_cases hc67 : (p5 &&& (8 : Int32)) = (0 : Int32)
      · refine oS (u' := T44.setTop (mkF m 60 #[.val (.int p1), .val (.int p2), .val (.int p3), .val (.int p4), .val (.int p5), .val (.int p6), .val (.int (own_l2 p1 p3 p5)), .val (.int (own_c2 p2 p4 p5)), .val (.ref z44), .unset, .unset, .unset, .unset, .unset, .unset, .unset, .unset, .unset] [])) (fun _ kst => XS.ifYes X44.here hx rfl (pc0 := 51) (pc' := 60) rfl (hb hby at_51) rfl ((if0 _ _).trans (teq hc67).1) (by decide) (by decide) kst) ?_
        obtain ⟨T68, X68, e68, st68⟩ := getS2 X44 hx hZ hown (host := "") (Or.inl (hw _ (List.mem_of_getElem? (i := 0) rfl))) Via.refl e44 (SE.ext (own_kext K0)) (g := (mkF m 60 #[.val (.int p1), .val (.int p2), .val (.int p3), .val (.int p4), .val (.int p5), .val (.int p6), .val (.int (own_l2 p1 p3 p5)), .val (.int (own_c2 p2 p4 p5)), .val (.ref z44), .unset, .unset, .unset, .unset, .unset, .unset, .unset, .unset, .unset] [])) rfl (hb hby at_60)
        refine oS (u' := T68.setTop (mkF m 63 #[.val (.int p1), .val (.int p2), .val (.int p3), .val (.int p4), .val (.int p5), .val (.int p6), .val (.int (own_l2 p1 p3 p5)), .val (.int (own_c2 p2 p4 p5)), .val (.ref z44), .unset, .unset, .unset, .unset, .unset, .unset, .unset, .unset, .unset] [(.ref gE)])) st68 ?_
        exact cut47 gE _ X68 e68
      · refine oS (u' := T44.setTop (mkF m 54 #[.val (.int p1), .val (.int p2), .val (.int p3), .val (.int p4), .val (.int p5), .val (.int p6), .val (.int (own_l2 p1 p3 p5)), .val (.int (own_c2 p2 p4 p5)), .val (.ref z44), .unset, .unset, .unset, .unset, .unset, .unset, .unset, .unset, .unset] [])) (fun _ kst => XS.ifNo X44.here hx rfl (hb hby at_51) rfl ((if0 _ _).trans (feq hc67).1) kst) ?_
        obtain ⟨T69, X69, e69, st69⟩ := getS2 X44 hx hZ hown (host := "") (Or.inl (hw _ (List.mem_of_getElem? (i := 97) rfl))) Via.refl e44 (SR.ext (own_kext K0)) (g := (mkF m 54 #[.val (.int p1), .val (.int p2), .val (.int p3), .val (.int p4), .val (.int p5), .val (.int p6), .val (.int (own_l2 p1 p3 p5)), .val (.int (own_c2 p2 p4 p5)), .val (.ref z44), .unset, .unset, .unset, .unset, .unset, .unset, .unset, .unset, .unset] [])) rfl (hb hby at_54)
        refine oS (u' := T69.setTop (mkF m 57 #[.val (.int p1), .val (.int p2), .val (.int p3), .val (.int p4), .val (.int p5), .val (.int p6), .val (.int (own_l2 p1 p3 p5)), .val (.int (own_c2 p2 p4 p5)), .val (.ref z44), .unset, .unset, .unset, .unset, .unset, .unset, .unset, .unset, .unset] [(.ref gR)])) st69 ?_
        refine oS (u' := T69.setTop (mkF m 63 #[.val (.int p1), .val (.int p2), .val (.int p3), .val (.int p4), .val (.int p5), .val (.int p6), .val (.int (own_l2 p1 p3 p5)), .val (.int (own_c2 p2 p4 p5)), .val (.ref z44), .unset, .unset, .unset, .unset, .unset, .unset, .unset, .unset, .unset] [(.ref gR)])) (fun _ kst => XS.goto X69.here hx rfl (pc0 := 57) (pc' := 63) rfl (hb hby at_57) (by decide) (by decide) kst) ?_
        exact cut47 gR _ X69 e69
  · by_cases hc70 : (p5 &&& (1 : Int32)) = (0 : Int32)
    · refine oS (u' := s₁.setTop (mkF m 41 #[.val (.int p1), .val (.int p2), .val (.int p3), .val (.int p4), .val (.int p5), .val (.int p6), .val (.int (own_l2 p1 p3 p5)), .val (.int (own_c2 p2 p4 p5)), .unset, .unset, .unset, .unset, .unset, .unset, .unset, .unset, .unset, .unset] [])) (fun _ kst => XS.ifYes X0.here hx rfl (pc0 := 32) (pc' := 41) rfl (hb hby at_32) rfl ((if0 _ _).trans (teq hc70).1) (by decide) (by decide) kst) ?_
      obtain ⟨T71, X71, e71, st71⟩ := getS2 X0 hx hZ hown (host := "") (Or.inl (hw _ (List.mem_of_getElem? (i := 0) rfl))) Via.refl e0 (SE.ext (own_kext K0)) (g := (mkF m 41 #[.val (.int p1), .val (.int p2), .val (.int p3), .val (.int p4), .val (.int p5), .val (.int p6), .val (.int (own_l2 p1 p3 p5)), .val (.int (own_c2 p2 p4 p5)), .unset, .unset, .unset, .unset, .unset, .unset, .unset, .unset, .unset, .unset] [])) rfl (hb hby at_41)
      refine oS (u' := T71.setTop (mkF m 44 #[.val (.int p1), .val (.int p2), .val (.int p3), .val (.int p4), .val (.int p5), .val (.int p6), .val (.int (own_l2 p1 p3 p5)), .val (.int (own_c2 p2 p4 p5)), .unset, .unset, .unset, .unset, .unset, .unset, .unset, .unset, .unset, .unset] [(.ref gE)])) st71 ?_
      exact cut44 gE _ X71 e71
    · refine oS (u' := s₁.setTop (mkF m 35 #[.val (.int p1), .val (.int p2), .val (.int p3), .val (.int p4), .val (.int p5), .val (.int p6), .val (.int (own_l2 p1 p3 p5)), .val (.int (own_c2 p2 p4 p5)), .unset, .unset, .unset, .unset, .unset, .unset, .unset, .unset, .unset, .unset] [])) (fun _ kst => XS.ifNo X0.here hx rfl (hb hby at_32) rfl ((if0 _ _).trans (feq hc70).1) kst) ?_
      obtain ⟨T72, X72, e72, st72⟩ := getS2 X0 hx hZ hown (host := "") (Or.inl (hw _ (List.mem_of_getElem? (i := 97) rfl))) Via.refl e0 (SR.ext (own_kext K0)) (g := (mkF m 35 #[.val (.int p1), .val (.int p2), .val (.int p3), .val (.int p4), .val (.int p5), .val (.int p6), .val (.int (own_l2 p1 p3 p5)), .val (.int (own_c2 p2 p4 p5)), .unset, .unset, .unset, .unset, .unset, .unset, .unset, .unset, .unset, .unset] [])) rfl (hb hby at_35)
      refine oS (u' := T72.setTop (mkF m 38 #[.val (.int p1), .val (.int p2), .val (.int p3), .val (.int p4), .val (.int p5), .val (.int p6), .val (.int (own_l2 p1 p3 p5)), .val (.int (own_c2 p2 p4 p5)), .unset, .unset, .unset, .unset, .unset, .unset, .unset, .unset, .unset, .unset] [(.ref gR)])) st72 ?_
      refine oS (u' := T72.setTop (mkF m 44 #[.val (.int p1), .val (.int p2), .val (.int p3), .val (.int p4), .val (.int p5), .val (.int p6), .val (.int (own_l2 p1 p3 p5)), .val (.int (own_c2 p2 p4 p5)), .unset, .unset, .unset, .unset, .unset, .unset, .unset, .unset, .unset, .unset] [(.ref gR)])) (fun _ kst => XS.goto X72.here hx rfl (pc0 := 38) (pc' := 44) rfl (hb hby at_38) (by decide) (by decide) kst) ?_
      exact cut44 gR _ X72 e72
set_option maxRecDepth 65536 in
set_option maxHeartbeats 40000000 in
theorem comes_1 {Post : Tables → Env → Array Value → State → Outcome → State → Prop} (hpost : ∀ tb e args s v u, (limb_1_1.after args s (.returned v) u = true ∧ limb_1_2.after args s (.returned v) u = true ∧ True) → FrameEnd s (.returned v) u (Jvm.fieldLocs frame_1_writes args s ++ Jvm.arrayLocs frame_1_arrays args s ++ Jvm.staticLocs frame_1_statics s) 32 128 → Post tb e args s (.returned v) u) :
    ArmFor flags0 classFile x code maxLocals ret World_1 tables_1 room_1 Calls_1 rest_1 Pre_1 Post := by
  intro l hfl _ _ p e ha hc hk s m args below hf hA hF happ hP
  obtain ⟨hcalls, hrest, hpre⟩ := hP
  obtain ⟨-, -, -, hnamed, -, -, -, hat⟩ := (Spec.applies_iff hf).mp happ
  obtain ⟨hg, hn⟩ := and_e (Cond.before_iff.mp (show (Jvm.Cond.and given_1 narrow_1).before args s = true from hpre))
  obtain ⟨g0, gg0⟩ := and_e hg
  obtain ⟨g1, gg1⟩ := and_e gg0
  obtain ⟨g2, gg2⟩ := and_e gg1
  obtain ⟨g3, gg3⟩ := and_e gg2
  obtain ⟨g4, gg4⟩ := and_e gg3
  obtain ⟨g5, gg5⟩ := and_e gg4
  obtain ⟨w0, w1, w2, w3, w4, w5, rfl⟩ : ∃ w0 w1 w2 w3 w4 w5 : Value, args = #[w0, w1, w2, w3, w4, w5] := by
    have hs : args.size = 6 := by simpa [Cond.value, given_1] using g0
    obtain ⟨L⟩ := args
    match L, hs with
    | [w0, w1, w2, w3, w4, w5], _ => exact ⟨w0, w1, w2, w3, w4, w5, rfl⟩
  have hw := fun d (hd : d ∈ tables_1) => atoms_spec (ws := Jvm.Cond.code x code maxLocals ret :: tables_1) hat d (List.mem_cons_of_mem _ hd)
  have hfit : Fit s := fun {y c} hc i hi => by
    obtain ⟨ha, rfl⟩ := Array.getElem?_eq_some_iff.mp hc
    have q := List.all_eq_true.mp ((Array.all_eq_true_iff_forall_mem.mp hF) _ (Array.getElem_mem ha)) i (List.mem_range.mpr hi)
    simpa [Array.getElem?_eq_getElem hi] using q
  obtain ⟨i0, ei0⟩ := is_v g1
  obtain rfl : w0 = (.int i0) := Option.some.inj ei0
  obtain ⟨i1, ei1⟩ := is_v g2
  obtain rfl : w1 = (.int i1) := Option.some.inj ei1
  obtain ⟨i2, ei2⟩ := is_v g3
  obtain rfl : w2 = (.int i2) := Option.some.inj ei2
  obtain ⟨i3, ei3⟩ := is_v g4
  obtain rfl : w3 = (.int i3) := Option.some.inj ei3
  obtain ⟨i4, ei4⟩ := is_v g5
  obtain rfl : w4 = (.int i4) := Option.some.inj ei4
  obtain ⟨i5, ei5⟩ := is_v gg5
  obtain rfl : w5 = (.int i5) := Option.some.inj ei5
  obtain ⟨hsets, hown0⟩ := atoms_of _ (rest_1_c_eq ▸ (show rest_1_c.before _ s = true from hrest))
  obtain ⟨G1, vG1⟩ := is_v (Cond.before_iff.mp (hsets _ (List.mem_of_getElem? (i := 1) rfl)))
  have O2 := Sta.start vG1 (Or.inl (hsets _ (List.mem_of_getElem? (i := 0) rfl)))
  have P5 : ¬ G1 = (0 : Int32) := gotF (Cond.eq_ints vG1 (Term.int_eval 0)) (not_v (Cond.before_iff.mp (hsets _ (List.mem_of_getElem? (i := 2) rfl))))
  obtain ⟨G3, vG3, rG3⟩ := isR_v (Cond.before_iff.mp (hsets _ (List.mem_of_getElem? (i := 8) rfl)))
  have O4 := Sta.start vG3 (Or.inl (hsets _ (List.mem_of_getElem? (i := 7) rfl)))
  obtain ⟨a1, a2⟩ := and_e hn
  obtain ⟨gE, vE⟩ := exa_v a1
  obtain ⟨gR, vR⟩ := exa_v a2
  have SE := Sta.start vE (Or.inr ⟨(hw _ (List.mem_of_getElem? (i := 1) rfl)), (hw _ (List.mem_of_getElem? (i := 2) rfl))⟩)
  have SR := Sta.start vR (Or.inr ⟨(hw _ (List.mem_of_getElem? (i := 1) rfl)), (hw _ (List.mem_of_getElem? (i := 98) rfl))⟩)
  obtain ⟨n, o, h1, h2, h3, _, L, rfl, ⟨rfl, N⟩, hq⟩ := own_law l s _ hw i0 i1 i2 i3 i4 i5 G1 G3 gE gR s.heap s.heap.size (Nat.le_refl _) O2 P5 O4 rG3 SE SR p e ha hc hk s m _ below hf ((Spec.applies_iff_loose hf).mp happ).1 ⟨rfl, State.Warmed39.refl s, rfl⟩ trivial
  refine ⟨n, _, h1, h2, h3, hpost _ _ _ _ _ _ ⟨Cond.after_iff.mpr rfl, Cond.after_iff.mpr (eq_i res_at (Term.int_eval (1)) rfl), trivial⟩ ⟨hq.1, hq.2.1, (hq.2.2.sift fun y hy => Or.inr (N y hy)).mono (by decide) (by decide)⟩⟩
theorem main_1_1 : Claimed_1_1 := comes_1 fun _ _ _ _ _ _ h hF => ⟨h.1, hF⟩
theorem main_1_2 : Claimed_1_2 := comes_1 fun _ _ _ _ _ _ h hF => ⟨h.2.1, hF⟩
end Jvm.Pilot.@@N@@
namespace Jvm.Pilot.@@N@@
open Jvm Jvm.ClassFile Sem Op Lib Jvm.Free Jvm.Stand Jvm.Pilot.@@N@@.Jvm.D
/-! MADE BY PROGRAM (witnessworld.py) out of the Statement's table words and the real class files: 26 classes; the members and pool entries that the words name. The judged class is class 1, her method 3. -/
namespace start1
open Jvm.ClassFile
def u (s : String) : CpInfo := .utf8 (stringToUtf16 s)
/-- a pool by its gaps: so many unusable entries, then the entry; so many at the end -/
def gap : Nat → List CpInfo → List CpInfo
  | 0, r => r
  | n + 1, r => .unusable :: gap n r
def poolList (es : List (Nat × CpInfo)) (last : Nat) : List CpInfo := es.foldr (fun e r => gap e.1 (e.2 :: r)) (gap last [])
def pool (es : List (Nat × CpInfo)) (last : Nat) : Array CpInfo := ⟨poolList es last⟩
def fileOf (pool : Array CpInfo) (this : Nat) (attrs : Array Attribute := #[]) (ms : Array MethodInfo := #[]) (fl : Nat := 33) (sup : Nat := 0) (ifs : Array Nat := #[]) (fds : Array FieldInfo := #[]) : ClassFile where
  minorVersion := 0
  majorVersion := 65
  constantPool := pool
  accessFlags := fl
  thisClass := this
  superClass := sup
  interfaces := ifs
  fields := fds
  methods := ms
  attributes := attrs
def plain (name : String) (sup : Option ClassId) : Class where
  name := name
  kind := .ordinary
  loader := none
  accessFlags := 33
  super := sup
  interfaces := #[]
  cf := none
  fields := #[]
  methods := #[]
  instanceTypes := #[]
  staticTypes := #[]
  resolved := #[]
  callSites := []
  init := .initialized
  statics := none
  mirror := none

def pool0 : Array CpInfo := pool [(5, u "<init>"), (0, u "()V"), (1, .class_ 10), (1, u "java/lang/Object")] 113

def k0c0 : Code := { maxStack := 0, maxLocals := 1, code := object_method_1_code, exceptionTable := #[], attributes := #[] }
def k0m0 : Method := { name := "<init>", desc := "()V", sig := { parameters := [], returnType := none }, accessFlags := 1, code := some k0c0 }
/-- java/lang/Object -/
def k0 : Class := { plain "java/lang/Object" none with
  accessFlags := 33
  interfaces := #[]
  cf := some (fileOf pool0 8 #[] #[{ accessFlags := 1, nameIndex := 5, descriptorIndex := 6, attributes := #[] }] 33 0 #[] #[])
  fields := #[]
  methods := #[k0m0]
  instanceTypes := #[]
  staticTypes := #[]
  resolved := Array.replicate 124 none
  statics := none }

def pool1 : Array CpInfo := pool [(2, .class_ 4), (1, u "java/lang/Object"), (0, u "<init>"), (0, u "()V"), (0, .fieldref 8 9), (0, .class_ 10), (0, .nameAndType 11 12), (0, u "com/example/demitasse/demitasse/source/Diagnostic$Kind"), (0, u "RUNTIME_ERROR"), (0, u "Lcom/example/demitasse/demitasse/source/Diagnostic$Kind;"), (0, .fieldref 8 14), (0, .nameAndType 15 12), (0, u "ERROR"), (0, .class_ 17), (0, u "java/lang/String"), (0, .methodref 16 19), (0, .nameAndType 5 20), (0, u "([C)V"), (0, .methodref 16 22), (0, .nameAndType 23 24), (0, u "valueOf"), (0, u "(C)Ljava/lang/String;"), (0, .class_ 26), (0, u "com/example/demitasse/demitasse/source/Diagnostic"), (0, .class_ 28), (0, u "com/example/demitasse/demitasse/source/Position"), (0, .methodref 27 30), (0, .nameAndType 5 31), (0, u "(II)V"), (0, .methodref 25 33), (0, .nameAndType 5 34), (0, u "(Lcom/example/demitasse/demitasse/source/Diagnostic$Kind;Lcom/example/demitasse/demitasse/source/Position;Ljava/lang/String;)V"), (0, .methodref 36 37), (0, .class_ 38), (0, .nameAndType 39 40), (0, u "com/example/demitasse/demitasse/source/DiagnosticCompareToPinLaw"), (0, u "expectedSign"), (0, u "(IIII)I"), (0, .methodref 25 42), (0, .nameAndType 43 44), (0, u "compareTo"), (0, u "(Lcom/example/demitasse/demitasse/source/Diagnostic;)I"), (0, .methodref 36 46), (0, .nameAndType 47 48), (0, u "sign"), (0, u "(I)I"), (3, u "law"), (0, u "(IIIIII)Z")] 6

def k1m0 : Method := { name := "<init>", desc := "()V", sig := { parameters := [], returnType := none }, accessFlags := 1, code := none }
def k1c1 : Code := { maxStack := 1, maxLocals := 1, code := method_2_code, exceptionTable := #[], attributes := #[] }
def k1m1 : Method := { name := "sign", desc := "(I)I", sig := { parameters := [.int], returnType := some .int }, accessFlags := 10, code := some k1c1 }
def k1c2 : Code := { maxStack := 2, maxLocals := 4, code := method_3_code, exceptionTable := #[], attributes := #[] }
def k1m2 : Method := { name := "expectedSign", desc := "(IIII)I", sig := { parameters := [.int, .int, .int, .int], returnType := some .int }, accessFlags := 10, code := some k1c2 }
def k1c3 : Code := { maxStack := 7, maxLocals := 18, code := code, exceptionTable := #[], attributes := #[] }
def k1m3 : Method := { name := "law", desc := "(IIIIII)Z", sig := { parameters := [.int, .int, .int, .int, .int, .int], returnType := some .boolean }, accessFlags := 9, code := some k1c3 }
/-- com/example/demitasse/demitasse/source/DiagnosticCompareToPinLaw -/
def k1 : Class := { plain "com/example/demitasse/demitasse/source/DiagnosticCompareToPinLaw" (some 0) with
  accessFlags := 49
  interfaces := #[]
  cf := some (fileOf pool1 36 #[] #[{ accessFlags := 1, nameIndex := 5, descriptorIndex := 6, attributes := #[] }, { accessFlags := 10, nameIndex := 47, descriptorIndex := 48, attributes := #[] }, { accessFlags := 10, nameIndex := 39, descriptorIndex := 40, attributes := #[] }, { accessFlags := 9, nameIndex := 52, descriptorIndex := 53, attributes := #[] }] 49 2 #[] #[])
  fields := #[]
  methods := #[k1m0, k1m1, k1m2, k1m3]
  instanceTypes := #[]
  staticTypes := #[]
  resolved := Array.replicate 60 none
  statics := none }

def pool2 : Array CpInfo := pool [(1, .class_ 2), (0, u "java/lang/constant/Constable"), (0, .class_ 4), (0, u "java/lang/Object")] 6

/-- java/lang/constant/Constable -/
def k2 : Class := { plain "java/lang/constant/Constable" (some 0) with
  accessFlags := 1537
  interfaces := #[]
  cf := some (fileOf pool2 1 #[] #[] 1537 3 #[] #[])
  fields := #[]
  methods := #[]
  instanceTypes := #[]
  staticTypes := #[]
  resolved := Array.replicate 11 none
  statics := none }

def pool3 : Array CpInfo := pool [(1, .class_ 2), (0, u "java/lang/Comparable"), (0, .class_ 4), (0, u "java/lang/Object")] 7

/-- java/lang/Comparable -/
def k3 : Class := { plain "java/lang/Comparable" (some 0) with
  accessFlags := 1537
  interfaces := #[]
  cf := some (fileOf pool3 1 #[] #[] 1537 3 #[] #[])
  fields := #[]
  methods := #[]
  instanceTypes := #[]
  staticTypes := #[]
  resolved := Array.replicate 12 none
  statics := none }

def pool4 : Array CpInfo := pool [(1, .class_ 2), (0, u "java/io/Serializable"), (0, .class_ 4), (0, u "java/lang/Object")] 2

/-- java/io/Serializable -/
def k4 : Class := { plain "java/io/Serializable" (some 0) with
  accessFlags := 1537
  interfaces := #[]
  cf := some (fileOf pool4 1 #[] #[] 1537 3 #[] #[])
  fields := #[]
  methods := #[]
  instanceTypes := #[]
  staticTypes := #[]
  resolved := Array.replicate 7 none
  statics := none }

def pool5 : Array CpInfo := pool [(2, .class_ 4), (1, u "java/lang/Enum"), (0, u "name"), (0, u "Ljava/lang/String;"), (2, u "ordinal"), (0, u "I"), (1, .class_ 14), (1, u "java/lang/Object"), (4, u "hash"), (86, .class_ 108), (1, u "java/lang/Enum$EnumDesc"), (2, .class_ 112), (0, u "java/lang/constant/Constable"), (0, .class_ 114), (0, u "java/lang/Comparable"), (0, .class_ 116), (0, u "java/io/Serializable")] 87

/-- java/lang/Enum -/
def k5 : Class := { plain "java/lang/Enum" (some 0) with
  accessFlags := 1057
  interfaces := #[2, 3, 4]
  cf := some (fileOf pool5 2 #[.nestMembers #[106]] #[] 1057 12 #[111, 113, 115] #[{ accessFlags := 18, nameIndex := 5, descriptorIndex := 6, attributes := #[] }, { accessFlags := 18, nameIndex := 9, descriptorIndex := 10, attributes := #[] }, { accessFlags := 2, nameIndex := 19, descriptorIndex := 10, attributes := #[] }])
  fields := #[{ name := "name", type := (.object "java/lang/String"), accessFlags := 18, slot := 0, constantValue := 0 }, { name := "ordinal", type := .int, accessFlags := 18, slot := 1, constantValue := 0 }, { name := "hash", type := .int, accessFlags := 2, slot := 2, constantValue := 0 }]
  methods := #[]
  instanceTypes := #[(.object "java/lang/String"), .int, .int]
  staticTypes := #[]
  resolved := Array.replicate 204 none
  statics := none }

def pool6 : Array CpInfo := pool [(1, .class_ 2), (0, u "com/example/demitasse/demitasse/source/Diagnostic$Kind"), (2, u "ERROR"), (0, u "Lcom/example/demitasse/demitasse/source/Diagnostic$Kind;"), (2, u "RUNTIME_ERROR"), (2, u "$VALUES"), (0, u "[Lcom/example/demitasse/demitasse/source/Diagnostic$Kind;"), (6, .class_ 22), (1, u "java/lang/Enum"), (8, u "label"), (0, u "Ljava/lang/String;"), (26, .class_ 60), (0, u "com/example/demitasse/demitasse/source/Diagnostic")] 2

/-- com/example/demitasse/demitasse/source/Diagnostic$Kind -/
def k6 : Class := { plain "com/example/demitasse/demitasse/source/Diagnostic$Kind" (some 5) with
  accessFlags := 16433
  interfaces := #[]
  cf := some (fileOf pool6 1 #[.nestHost 59] #[] 16433 20 #[] #[{ accessFlags := 16409, nameIndex := 5, descriptorIndex := 6, attributes := #[] }, { accessFlags := 16409, nameIndex := 9, descriptorIndex := 6, attributes := #[] }, { accessFlags := 18, nameIndex := 31, descriptorIndex := 32, attributes := #[] }, { accessFlags := 4122, nameIndex := 12, descriptorIndex := 13, attributes := #[] }])
  fields := #[{ name := "ERROR", type := (.object "com/example/demitasse/demitasse/source/Diagnostic$Kind"), accessFlags := 16409, slot := 0, constantValue := 0 }, { name := "RUNTIME_ERROR", type := (.object "com/example/demitasse/demitasse/source/Diagnostic$Kind"), accessFlags := 16409, slot := 1, constantValue := 0 }, { name := "label", type := (.object "java/lang/String"), accessFlags := 18, slot := 3, constantValue := 0 }, { name := "$VALUES", type := (.array (.object "com/example/demitasse/demitasse/source/Diagnostic$Kind")), accessFlags := 4122, slot := 2, constantValue := 0 }]
  methods := #[]
  instanceTypes := #[(.object "java/lang/String"), .int, .int, (.object "java/lang/String")]
  staticTypes := #[(.object "com/example/demitasse/demitasse/source/Diagnostic$Kind"), (.object "com/example/demitasse/demitasse/source/Diagnostic$Kind"), (.array (.object "com/example/demitasse/demitasse/source/Diagnostic$Kind"))]
  resolved := Array.replicate 63 none
  statics := some 0 }

def pool7 : Array CpInfo := pool [(2, .class_ 4), (1, u "java/lang/CharSequence"), (42, .class_ 48), (0, u "java/lang/CharSequence$1CodePointIterator"), (10, .class_ 60), (0, u "java/lang/CharSequence$1CharIterator"), (5, .class_ 67), (0, u "java/lang/Object")] 63

/-- java/lang/CharSequence -/
def k7 : Class := { plain "java/lang/CharSequence" (some 0) with
  accessFlags := 1537
  interfaces := #[]
  cf := some (fileOf pool7 2 #[.nestMembers #[47, 59]] #[] 1537 66 #[] #[])
  fields := #[]
  methods := #[]
  instanceTypes := #[]
  staticTypes := #[]
  resolved := Array.replicate 131 none
  statics := none }

def pool8 : Array CpInfo := pool [(1, .class_ 2), (0, u "java/lang/constant/ConstantDesc"), (0, .class_ 4), (0, u "java/lang/Object")] 32

/-- java/lang/constant/ConstantDesc -/
def k8 : Class := { plain "java/lang/constant/ConstantDesc" (some 0) with
  accessFlags := 1537
  interfaces := #[]
  cf := some (fileOf pool8 1 #[] #[] 1537 3 #[] #[])
  fields := #[]
  methods := #[]
  instanceTypes := #[]
  staticTypes := #[]
  resolved := Array.replicate 37 none
  statics := none }

def pool9 : Array CpInfo := pool [(1, .methodref 2 3), (0, .class_ 4), (0, .nameAndType 5 6), (0, u "java/lang/Object"), (0, u "<init>"), (0, u "()V"), (2, .fieldref 10 11), (0, .class_ 12), (0, .nameAndType 13 14), (0, u "java/lang/String"), (0, u "value"), (0, u "[B"), (0, .fieldref 10 16), (0, .nameAndType 17 18), (0, u "coder"), (0, u "B"), (2, u "hash"), (0, u "I"), (2, u "hashIsZero"), (0, u "Z"), (0, .methodref 10 28), (0, .nameAndType 5 29), (0, u "([CIILjava/lang/Void;)V"), (8, .fieldref 10 39), (0, .nameAndType 40 26), (0, u "COMPACT_STRINGS"), (1, .class_ 44), (1, u "java/lang/StringUTF16"), (0, u "compress"), (1, .methodref 42 48), (0, .nameAndType 49 50), (0, u "coderFromArrayLen"), (0, u "([BI)B"), (2, u "toBytes"), (53, .class_ 109), (1, u "java/lang/StringLatin1"), (67, .methodref 42 178), (0, .nameAndType 45 179), (0, u "([CII)[B"), (29, .methodref 10 210), (0, .nameAndType 5 211), (0, u "([BB)V"), (157, u "(C)Z"), (205, .class_ 576), (0, u "java/lang/CharSequence"), (22, u "CASE_INSENSITIVE_ORDER"), (0, u "Ljava/util/Comparator;"), (181, u "valueOf"), (0, u "(C)Ljava/lang/String;"), (226, u "([C)V"), (4, .methodref 107 1016), (0, .nameAndType 1017 369), (0, u "canEncode"), (0, .methodref 107 1019), (0, .nameAndType 53 1020), (0, u "(C)[B"), (80, u "serialPersistentFields"), (0, u "[Ljava/io/ObjectStreamField;"), (0, .class_ 1104), (0, u "java/lang/String$CaseInsensitiveComparator"), (1, .class_ 1107), (0, u "java/io/Serializable"), (0, .class_ 1109), (0, u "java/lang/Comparable"), (0, .class_ 1111), (0, u "java/lang/constant/Constable"), (0, .class_ 1113), (0, u "java/lang/constant/ConstantDesc"), (2, u "serialVersionUID"), (0, u "J"), (3, u "REPL"), (0, u "C"), (2, u "LATIN1"), (1, u "UTF16")] 323

def k9m0 : Method := { name := "<init>", desc := "()V", sig := { parameters := [], returnType := none }, accessFlags := 1, code := none }
def k9c1 : Code := { maxStack := 5, maxLocals := 2, code := jdk_42_method_3_code, exceptionTable := #[], attributes := #[] }
def k9m1 : Method := { name := "<init>", desc := "([C)V", sig := { parameters := [(.array .char)], returnType := none }, accessFlags := 1, code := some k9c1 }
def k9c2 : Code := { maxStack := 4, maxLocals := 1, code := jdk_42_method_139_code, exceptionTable := #[], attributes := #[] }
def k9m2 : Method := { name := "valueOf", desc := "(C)Ljava/lang/String;", sig := { parameters := [.char], returnType := some (.object "java/lang/String") }, accessFlags := 9, code := some k9c2 }
def k9c3 : Code := { maxStack := 4, maxLocals := 6, code := jdk_42_method_149_code, exceptionTable := #[], attributes := #[] }
def k9m3 : Method := { name := "<init>", desc := "([CIILjava/lang/Void;)V", sig := { parameters := [(.array .char), .int, .int, (.object "java/lang/Void")], returnType := none }, accessFlags := 2, code := some k9c3 }
def k9c4 : Code := { maxStack := 2, maxLocals := 3, code := jdk_42_method_151_code, exceptionTable := #[], attributes := #[] }
def k9m4 : Method := { name := "<init>", desc := "([BB)V", sig := { parameters := [(.array .byte), .byte], returnType := none }, accessFlags := 0, code := some k9c4 }
/-- java/lang/String -/
def k9 : Class := { plain "java/lang/String" (some 0) with
  accessFlags := 49
  interfaces := #[4, 3, 7, 2, 8]
  cf := some (fileOf pool9 10 #[.nestMembers #[1103]] #[{ accessFlags := 1, nameIndex := 5, descriptorIndex := 6, attributes := #[] }, { accessFlags := 1, nameIndex := 5, descriptorIndex := 1010, attributes := #[] }, { accessFlags := 9, nameIndex := 782, descriptorIndex := 783, attributes := #[] }, { accessFlags := 2, nameIndex := 5, descriptorIndex := 29, attributes := #[] }, { accessFlags := 0, nameIndex := 5, descriptorIndex := 211, attributes := #[] }] 49 2 #[1106, 1108, 575, 1110, 1112] #[{ accessFlags := 18, nameIndex := 13, descriptorIndex := 14, attributes := #[] }, { accessFlags := 18, nameIndex := 17, descriptorIndex := 18, attributes := #[] }, { accessFlags := 2, nameIndex := 21, descriptorIndex := 22, attributes := #[] }, { accessFlags := 2, nameIndex := 25, descriptorIndex := 26, attributes := #[] }, { accessFlags := 26, nameIndex := 1116, descriptorIndex := 1117, attributes := #[] }, { accessFlags := 24, nameIndex := 40, descriptorIndex := 26, attributes := #[] }, { accessFlags := 26, nameIndex := 1101, descriptorIndex := 1102, attributes := #[] }, { accessFlags := 26, nameIndex := 1121, descriptorIndex := 1122, attributes := #[] }, { accessFlags := 25, nameIndex := 599, descriptorIndex := 600, attributes := #[] }, { accessFlags := 24, nameIndex := 1125, descriptorIndex := 18, attributes := #[] }, { accessFlags := 24, nameIndex := 1127, descriptorIndex := 18, attributes := #[] }])
  fields := #[{ name := "value", type := (.array .byte), accessFlags := 18, slot := 0, constantValue := 0 }, { name := "coder", type := .byte, accessFlags := 18, slot := 1, constantValue := 0 }, { name := "hash", type := .int, accessFlags := 2, slot := 2, constantValue := 0 }, { name := "hashIsZero", type := .boolean, accessFlags := 2, slot := 3, constantValue := 0 }, { name := "serialVersionUID", type := .long, accessFlags := 26, slot := 0, constantValue := 0 }, { name := "COMPACT_STRINGS", type := .boolean, accessFlags := 24, slot := 1, constantValue := 0 }, { name := "serialPersistentFields", type := (.array (.object "java/io/ObjectStreamField")), accessFlags := 26, slot := 2, constantValue := 0 }, { name := "REPL", type := .char, accessFlags := 26, slot := 3, constantValue := 0 }, { name := "CASE_INSENSITIVE_ORDER", type := (.object "java/util/Comparator"), accessFlags := 25, slot := 4, constantValue := 0 }, { name := "LATIN1", type := .byte, accessFlags := 24, slot := 5, constantValue := 0 }, { name := "UTF16", type := .byte, accessFlags := 24, slot := 6, constantValue := 0 }]
  methods := #[k9m0, k9m1, k9m2, k9m3, k9m4]
  instanceTypes := #[(.array .byte), .byte, .int, .boolean]
  staticTypes := #[.long, .boolean, (.array (.object "java/io/ObjectStreamField")), .char, (.object "java/util/Comparator"), .byte, .byte]
  resolved := Array.replicate 1451 none
  statics := some 1 }

def pool10 : Array CpInfo := pool [(6, .class_ 8), (1, u "java/lang/Object"), (0, u "<init>"), (0, u "()V"), (1, .class_ 14), (1, u "java/lang/StringUTF16"), (31, u "$assertionsDisabled"), (0, u "Z"), (13, u "HI_BYTE_SHIFT"), (0, u "I"), (2, u "LO_BYTE_SHIFT"), (49, .methodref 12 116), (0, .nameAndType 117 118), (0, u "compress"), (0, u "([CI[BII)I"), (3, u "([CII)[B"), (138, u "coderFromArrayLen"), (0, u "([BI)B"), (106, .class_ 371), (1, u "java/lang/StringUTF16$LinesSpliterator"), (58, u "MAX_LENGTH"), (196, .class_ 628), (0, u "java/lang/StringUTF16$CodePointsSpliterator"), (0, .class_ 630), (0, u "java/lang/StringUTF16$CharsSpliterator")] 4

def k10m0 : Method := { name := "<init>", desc := "()V", sig := { parameters := [], returnType := none }, accessFlags := 0, code := none }
def k10c1 : Code := { maxStack := 2, maxLocals := 2, code := jdk_52_method_15_code, exceptionTable := #[], attributes := #[] }
def k10m1 : Method := { name := "coderFromArrayLen", desc := "([BI)B", sig := { parameters := [(.array .byte), .int], returnType := some .byte }, accessFlags := 8, code := some k10c1 }
def k10c2 : Code := { maxStack := 5, maxLocals := 6, code := jdk_52_method_16_code, exceptionTable := #[], attributes := #[] }
def k10m2 : Method := { name := "compress", desc := "([CII)[B", sig := { parameters := [(.array .char), .int, .int], returnType := some (.array .byte) }, accessFlags := 9, code := some k10c2 }
def k10c3 : Code := { maxStack := 3, maxLocals := 7, code := jdk_52_method_21_code, exceptionTable := #[], attributes := #[] }
def k10m3 : Method := { name := "compress", desc := "([CI[BII)I", sig := { parameters := [(.array .char), .int, (.array .byte), .int, .int], returnType := some .int }, accessFlags := 9, code := some k10c3 }
/-- java/lang/StringUTF16 -/
def k10 : Class := { plain "java/lang/StringUTF16" (some 0) with
  accessFlags := 48
  interfaces := #[]
  cf := some (fileOf pool10 12 #[.nestMembers #[627, 629, 369]] #[{ accessFlags := 0, nameIndex := 9, descriptorIndex := 10, attributes := #[] }, { accessFlags := 8, nameIndex := 261, descriptorIndex := 262, attributes := #[] }, { accessFlags := 9, nameIndex := 117, descriptorIndex := 122, attributes := #[] }, { accessFlags := 9, nameIndex := 117, descriptorIndex := 118, attributes := #[] }] 48 6 #[] #[{ accessFlags := 26, nameIndex := 61, descriptorIndex := 62, attributes := #[] }, { accessFlags := 26, nameIndex := 65, descriptorIndex := 62, attributes := #[] }, { accessFlags := 24, nameIndex := 430, descriptorIndex := 62, attributes := #[] }, { accessFlags := 4120, nameIndex := 46, descriptorIndex := 47, attributes := #[] }])
  fields := #[{ name := "HI_BYTE_SHIFT", type := .int, accessFlags := 26, slot := 0, constantValue := 0 }, { name := "LO_BYTE_SHIFT", type := .int, accessFlags := 26, slot := 1, constantValue := 0 }, { name := "MAX_LENGTH", type := .int, accessFlags := 24, slot := 2, constantValue := 0 }, { name := "$assertionsDisabled", type := .boolean, accessFlags := 4120, slot := 3, constantValue := 0 }]
  methods := #[k10m0, k10m1, k10m2, k10m3]
  instanceTypes := #[]
  staticTypes := #[.int, .int, .int, .boolean]
  resolved := Array.replicate 635 none
  statics := none }

def pool11 : Array CpInfo := pool [(4, .class_ 6), (1, u "java/lang/Object"), (0, u "<init>"), (0, u "()V"), (5, .class_ 16), (1, u "java/lang/StringLatin1"), (73, u "canEncode"), (14, u "(C)Z"), (15, u "$assertionsDisabled"), (0, u "Z"), (98, .class_ 223), (1, u "java/lang/StringLatin1$LinesSpliterator"), (156, u "toBytes"), (1, u "(C)[B"), (7, .class_ 391), (0, u "java/lang/StringLatin1$CharsSpliterator")] 3

def k11m0 : Method := { name := "<init>", desc := "()V", sig := { parameters := [], returnType := none }, accessFlags := 0, code := none }
def k11c1 : Code := { maxStack := 2, maxLocals := 1, code := jdk_43_method_3_code, exceptionTable := #[], attributes := #[] }
def k11m1 : Method := { name := "canEncode", desc := "(C)Z", sig := { parameters := [.char], returnType := some .boolean }, accessFlags := 9, code := some k11c1 }
def k11c2 : Code := { maxStack := 4, maxLocals := 1, code := jdk_43_method_46_code, exceptionTable := #[], attributes := #[] }
def k11m2 : Method := { name := "toBytes", desc := "(C)[B", sig := { parameters := [.char], returnType := some (.array .byte) }, accessFlags := 9, code := some k11c2 }
/-- java/lang/StringLatin1 -/
def k11 : Class := { plain "java/lang/StringLatin1" (some 0) with
  accessFlags := 48
  interfaces := #[]
  cf := some (fileOf pool11 14 #[.nestMembers #[390, 221]] #[{ accessFlags := 0, nameIndex := 7, descriptorIndex := 8, attributes := #[] }, { accessFlags := 9, nameIndex := 90, descriptorIndex := 105, attributes := #[] }, { accessFlags := 9, nameIndex := 380, descriptorIndex := 382, attributes := #[] }] 48 4 #[] #[{ accessFlags := 4120, nameIndex := 121, descriptorIndex := 122, attributes := #[] }])
  fields := #[{ name := "$assertionsDisabled", type := .boolean, accessFlags := 4120, slot := 0, constantValue := 0 }]
  methods := #[k11m0, k11m1, k11m2]
  instanceTypes := #[]
  staticTypes := #[.boolean]
  resolved := Array.replicate 395 none
  statics := none }

def pool12 : Array CpInfo := pool [(1, .methodref 2 3), (0, .class_ 4), (0, .nameAndType 5 6), (0, u "java/lang/Object"), (0, u "<init>"), (0, u "()V"), (0, .class_ 8), (0, u "java/lang/Record")] 13

def k12c0 : Code := { maxStack := 1, maxLocals := 1, code := jdk_30_method_1_code, exceptionTable := #[], attributes := #[] }
def k12m0 : Method := { name := "<init>", desc := "()V", sig := { parameters := [], returnType := none }, accessFlags := 4, code := some k12c0 }
/-- java/lang/Record -/
def k12 : Class := { plain "java/lang/Record" (some 0) with
  accessFlags := 1057
  interfaces := #[]
  cf := some (fileOf pool12 7 #[] #[{ accessFlags := 4, nameIndex := 5, descriptorIndex := 6, attributes := #[] }] 1057 2 #[] #[])
  fields := #[]
  methods := #[k12m0]
  instanceTypes := #[]
  staticTypes := #[]
  resolved := Array.replicate 22 none
  statics := none }

def pool13 : Array CpInfo := pool [(1, .methodref 2 3), (0, .class_ 4), (0, .nameAndType 5 6), (0, u "java/lang/Record"), (0, u "<init>"), (0, u "()V"), (0, .fieldref 8 9), (0, .class_ 10), (0, .nameAndType 11 12), (0, u "com/example/demitasse/demitasse/source/Diagnostic"), (0, u "kind"), (0, u "Lcom/example/demitasse/demitasse/source/Diagnostic$Kind;"), (0, .fieldref 8 14), (0, .nameAndType 15 16), (0, u "position"), (0, u "Lcom/example/demitasse/demitasse/source/Position;"), (0, .fieldref 8 18), (0, .nameAndType 19 20), (0, u "message"), (0, u "Ljava/lang/String;"), (1, .class_ 24), (1, u "com/example/demitasse/demitasse/source/Diagnostic$Kind"), (3, u "(Lcom/example/demitasse/demitasse/source/Diagnostic$Kind;Lcom/example/demitasse/demitasse/source/Position;Ljava/lang/String;)V"), (16, .methodref 46 47), (0, .class_ 48), (0, .nameAndType 49 50), (0, u "com/example/demitasse/demitasse/source/Position"), (0, u "compareTo"), (0, u "(Lcom/example/demitasse/demitasse/source/Position;)I"), (2, u "(Lcom/example/demitasse/demitasse/source/Diagnostic;)I"), (11, .class_ 66), (0, u "java/lang/Comparable")] 48

def k13c0 : Code := { maxStack := 2, maxLocals := 4, code := prog_26_method_1_code, exceptionTable := #[], attributes := #[] }
def k13m0 : Method := { name := "<init>", desc := "(Lcom/example/demitasse/demitasse/source/Diagnostic$Kind;Lcom/example/demitasse/demitasse/source/Position;Ljava/lang/String;)V", sig := { parameters := [(.object "com/example/demitasse/demitasse/source/Diagnostic$Kind"), (.object "com/example/demitasse/demitasse/source/Position"), (.object "java/lang/String")], returnType := none }, accessFlags := 1, code := some k13c0 }
def k13c1 : Code := { maxStack := 2, maxLocals := 2, code := prog_26_method_5_code, exceptionTable := #[], attributes := #[] }
def k13m1 : Method := { name := "compareTo", desc := "(Lcom/example/demitasse/demitasse/source/Diagnostic;)I", sig := { parameters := [(.object "com/example/demitasse/demitasse/source/Diagnostic")], returnType := some .int }, accessFlags := 1, code := some k13c1 }
/-- com/example/demitasse/demitasse/source/Diagnostic -/
def k13 : Class := { plain "com/example/demitasse/demitasse/source/Diagnostic" (some 12) with
  accessFlags := 49
  interfaces := #[3]
  cf := some (fileOf pool13 8 #[.nestMembers #[22]] #[{ accessFlags := 1, nameIndex := 5, descriptorIndex := 28, attributes := #[] }, { accessFlags := 1, nameIndex := 49, descriptorIndex := 53, attributes := #[] }] 49 2 #[65] #[{ accessFlags := 18, nameIndex := 11, descriptorIndex := 12, attributes := #[] }, { accessFlags := 18, nameIndex := 15, descriptorIndex := 16, attributes := #[] }, { accessFlags := 18, nameIndex := 19, descriptorIndex := 20, attributes := #[] }])
  fields := #[{ name := "kind", type := (.object "com/example/demitasse/demitasse/source/Diagnostic$Kind"), accessFlags := 18, slot := 0, constantValue := 0 }, { name := "position", type := (.object "com/example/demitasse/demitasse/source/Position"), accessFlags := 18, slot := 1, constantValue := 0 }, { name := "message", type := (.object "java/lang/String"), accessFlags := 18, slot := 2, constantValue := 0 }]
  methods := #[k13m0, k13m1]
  instanceTypes := #[(.object "com/example/demitasse/demitasse/source/Diagnostic$Kind"), (.object "com/example/demitasse/demitasse/source/Position"), (.object "java/lang/String")]
  staticTypes := #[]
  resolved := Array.replicate 115 none
  statics := none }

def pool14 : Array CpInfo := pool [(1, .methodref 2 3), (0, .class_ 4), (0, .nameAndType 5 6), (0, u "java/lang/Record"), (0, u "<init>"), (0, u "()V"), (0, .fieldref 8 9), (0, .class_ 10), (0, .nameAndType 11 12), (0, u "com/example/demitasse/demitasse/source/Position"), (0, u "line"), (0, u "I"), (0, .fieldref 8 14), (0, .nameAndType 15 12), (0, u "column"), (0, .methodref 17 18), (0, .class_ 19), (0, .nameAndType 20 21), (0, u "java/lang/Integer"), (0, u "compare"), (0, u "(II)I"), (6, u "compareTo"), (0, u "(Lcom/example/demitasse/demitasse/source/Position;)I"), (7, .class_ 38), (0, u "java/lang/Comparable"), (0, u "(II)V")] 40

def k14c0 : Code := { maxStack := 2, maxLocals := 3, code := prog_31_method_1_code, exceptionTable := #[], attributes := #[] }
def k14m0 : Method := { name := "<init>", desc := "(II)V", sig := { parameters := [.int, .int], returnType := none }, accessFlags := 1, code := some k14c0 }
def k14c1 : Code := { maxStack := 2, maxLocals := 3, code := prog_31_method_2_code, exceptionTable := #[], attributes := #[] }
def k14m1 : Method := { name := "compareTo", desc := "(Lcom/example/demitasse/demitasse/source/Position;)I", sig := { parameters := [(.object "com/example/demitasse/demitasse/source/Position")], returnType := some .int }, accessFlags := 1, code := some k14c1 }
/-- com/example/demitasse/demitasse/source/Position -/
def k14 : Class := { plain "com/example/demitasse/demitasse/source/Position" (some 12) with
  accessFlags := 49
  interfaces := #[3]
  cf := some (fileOf pool14 8 #[] #[{ accessFlags := 1, nameIndex := 5, descriptorIndex := 39, attributes := #[] }, { accessFlags := 1, nameIndex := 28, descriptorIndex := 29, attributes := #[] }] 49 2 #[37] #[{ accessFlags := 18, nameIndex := 11, descriptorIndex := 12, attributes := #[] }, { accessFlags := 18, nameIndex := 15, descriptorIndex := 12, attributes := #[] }])
  fields := #[{ name := "line", type := .int, accessFlags := 18, slot := 0, constantValue := 0 }, { name := "column", type := .int, accessFlags := 18, slot := 1, constantValue := 0 }]
  methods := #[k14m0, k14m1]
  instanceTypes := #[.int, .int]
  staticTypes := #[]
  resolved := Array.replicate 80 none
  statics := none }

def pool15 : Array CpInfo := pool [(2, .class_ 4), (1, u "java/lang/Object"), (0, u "<init>"), (0, u "()V"), (1, .class_ 10), (1, u "java/lang/Number"), (2, .class_ 14), (0, u "java/io/Serializable"), (0, u "serialVersionUID"), (0, u "J")] 20

def k15m0 : Method := { name := "<init>", desc := "()V", sig := { parameters := [], returnType := none }, accessFlags := 1, code := none }
/-- java/lang/Number -/
def k15 : Class := { plain "java/lang/Number" (some 0) with
  accessFlags := 1057
  interfaces := #[4]
  cf := some (fileOf pool15 8 #[] #[{ accessFlags := 1, nameIndex := 5, descriptorIndex := 6, attributes := #[] }] 1057 2 #[13] #[{ accessFlags := 26, nameIndex := 15, descriptorIndex := 16, attributes := #[] }])
  fields := #[{ name := "serialVersionUID", type := .long, accessFlags := 26, slot := 0, constantValue := 0 }]
  methods := #[k15m0]
  instanceTypes := #[]
  staticTypes := #[.long]
  resolved := Array.replicate 37 none
  statics := none }

def pool16 : Array CpInfo := pool [(1, .class_ 2), (0, u "java/lang/Integer"), (16, u "digits"), (0, u "[C"), (39, u "(II)I"), (24, u "DigitOnes"), (0, u "[B"), (2, u "DigitTens"), (99, .class_ 190), (0, u "java/lang/Integer$IntegerCache"), (3, u "I"), (8, .class_ 204), (0, u "java/lang/Number"), (2, u "value"), (53, u "compare"), (40, u "TYPE"), (0, u "Ljava/lang/Class;"), (0, .class_ 305), (0, u "java/lang/Comparable"), (0, .class_ 307), (0, u "java/lang/constant/Constable"), (0, .class_ 309), (0, u "java/lang/constant/ConstantDesc"), (0, u "MIN_VALUE"), (1, u "MAX_VALUE"), (3, u "SIZE"), (1, u "BYTES"), (1, u "serialVersionUID"), (0, u "J")] 131

def k16c0 : Code := { maxStack := 2, maxLocals := 2, code := jdk_33_method_40_code, exceptionTable := #[], attributes := #[] }
def k16m0 : Method := { name := "compare", desc := "(II)I", sig := { parameters := [.int, .int], returnType := some .int }, accessFlags := 9, code := some k16c0 }
/-- java/lang/Integer -/
def k16 : Class := { plain "java/lang/Integer" (some 15) with
  accessFlags := 49
  interfaces := #[3, 2, 8]
  cf := some (fileOf pool16 1 #[.nestMembers #[189]] #[{ accessFlags := 9, nameIndex := 261, descriptorIndex := 60, attributes := #[] }] 49 203 #[304, 306, 308] #[{ accessFlags := 25, nameIndex := 310, descriptorIndex := 194, attributes := #[] }, { accessFlags := 25, nameIndex := 312, descriptorIndex := 194, attributes := #[] }, { accessFlags := 25, nameIndex := 302, descriptorIndex := 303, attributes := #[] }, { accessFlags := 24, nameIndex := 19, descriptorIndex := 20, attributes := #[] }, { accessFlags := 24, nameIndex := 89, descriptorIndex := 86, attributes := #[] }, { accessFlags := 24, nameIndex := 85, descriptorIndex := 86, attributes := #[] }, { accessFlags := 18, nameIndex := 207, descriptorIndex := 194, attributes := #[] }, { accessFlags := 25, nameIndex := 316, descriptorIndex := 194, attributes := #[] }, { accessFlags := 25, nameIndex := 318, descriptorIndex := 194, attributes := #[] }, { accessFlags := 26, nameIndex := 320, descriptorIndex := 321, attributes := #[] }])
  fields := #[{ name := "MIN_VALUE", type := .int, accessFlags := 25, slot := 0, constantValue := 0 }, { name := "MAX_VALUE", type := .int, accessFlags := 25, slot := 1, constantValue := 0 }, { name := "TYPE", type := (.object "java/lang/Class"), accessFlags := 25, slot := 2, constantValue := 0 }, { name := "digits", type := (.array .char), accessFlags := 24, slot := 3, constantValue := 0 }, { name := "DigitTens", type := (.array .byte), accessFlags := 24, slot := 4, constantValue := 0 }, { name := "DigitOnes", type := (.array .byte), accessFlags := 24, slot := 5, constantValue := 0 }, { name := "value", type := .int, accessFlags := 18, slot := 0, constantValue := 0 }, { name := "SIZE", type := .int, accessFlags := 25, slot := 6, constantValue := 0 }, { name := "BYTES", type := .int, accessFlags := 25, slot := 7, constantValue := 0 }, { name := "serialVersionUID", type := .long, accessFlags := 26, slot := 8, constantValue := 0 }]
  methods := #[k16m0]
  instanceTypes := #[.int]
  staticTypes := #[.int, .int, (.object "java/lang/Class"), (.array .char), (.array .byte), (.array .byte), .int, .int, .long]
  resolved := Array.replicate 453 none
  statics := none }

def pool17 : Array CpInfo := pool [(2, .class_ 4), (1, u "java/lang/Object"), (0, u "<init>"), (0, u "()V"), (17, .class_ 26), (1, u "jdk/internal/util/Preconditions"), (28, .class_ 56), (0, u "jdk/internal/util/Preconditions$4"), (57, .class_ 115), (0, u "jdk/internal/util/Preconditions$1"), (7, u "SIOOBE_FORMATTER"), (0, u "Ljava/util/function/BiFunction;"), (0, .class_ 126), (0, u "jdk/internal/util/Preconditions$2"), (3, u "AIOOBE_FORMATTER"), (0, .class_ 132), (0, u "jdk/internal/util/Preconditions$3"), (3, u "IOOBE_FORMATTER")] 57

def k17m0 : Method := { name := "<init>", desc := "()V", sig := { parameters := [], returnType := none }, accessFlags := 1, code := none }
/-- jdk/internal/util/Preconditions -/
def k17 : Class := { plain "jdk/internal/util/Preconditions" (some 0) with
  accessFlags := 33
  interfaces := #[]
  cf := some (fileOf pool17 24 #[.nestMembers #[55, 131, 125, 114]] #[{ accessFlags := 1, nameIndex := 5, descriptorIndex := 6, attributes := #[] }] 33 2 #[] #[{ accessFlags := 25, nameIndex := 123, descriptorIndex := 124, attributes := #[] }, { accessFlags := 25, nameIndex := 130, descriptorIndex := 124, attributes := #[] }, { accessFlags := 25, nameIndex := 136, descriptorIndex := 124, attributes := #[] }])
  fields := #[{ name := "SIOOBE_FORMATTER", type := (.object "java/util/function/BiFunction"), accessFlags := 25, slot := 0, constantValue := 0 }, { name := "AIOOBE_FORMATTER", type := (.object "java/util/function/BiFunction"), accessFlags := 25, slot := 1, constantValue := 0 }, { name := "IOOBE_FORMATTER", type := (.object "java/util/function/BiFunction"), accessFlags := 25, slot := 2, constantValue := 0 }]
  methods := #[k17m0]
  instanceTypes := #[]
  staticTypes := #[(.object "java/util/function/BiFunction"), (.object "java/util/function/BiFunction"), (.object "java/util/function/BiFunction")]
  resolved := Array.replicate 194 none
  statics := some 2 }

def pool18 : Array CpInfo := pool [(9, u "<init>"), (6, .class_ 18), (1, u "java/lang/Object"), (0, u "()V"), (1, .class_ 23), (1, u "jdk/internal/util/ArraysSupport"), (0, u "LOG2_ARRAY_LONG_INDEX_SCALE"), (0, u "I"), (2, u "U"), (0, u "Ljdk/internal/misc/Unsafe;"), (8, u "BIG_ENDIAN"), (0, u "Z"), (8, u "LOG2_BYTE_BIT_SIZE"), (4, u "LOG2_ARRAY_INT_INDEX_SCALE"), (54, u "JLA"), (0, u "Ljdk/internal/access/JavaLangAccess;"), (11, u "LOG2_ARRAY_BOOLEAN_INDEX_SCALE"), (9, u "LOG2_ARRAY_BYTE_INDEX_SCALE"), (5, u "LOG2_ARRAY_CHAR_INDEX_SCALE"), (5, u "LOG2_ARRAY_SHORT_INDEX_SCALE"), (18, u "LOG2_ARRAY_FLOAT_INDEX_SCALE"), (24, u "LOG2_ARRAY_DOUBLE_INDEX_SCALE"), (89, u "T_BOOLEAN"), (2, u "T_CHAR"), (1, u "T_FLOAT"), (1, u "T_DOUBLE"), (1, u "T_BYTE"), (1, u "T_SHORT"), (1, u "T_INT"), (1, u "T_LONG"), (1, u "SOFT_MAX_ARRAY_LENGTH")] 83

def k18m0 : Method := { name := "<init>", desc := "()V", sig := { parameters := [], returnType := none }, accessFlags := 2, code := none }
/-- jdk/internal/util/ArraysSupport -/
def k18 : Class := { plain "jdk/internal/util/ArraysSupport" (some 0) with
  accessFlags := 33
  interfaces := #[]
  cf := some (fileOf pool18 21 #[] #[{ accessFlags := 2, nameIndex := 9, descriptorIndex := 19, attributes := #[] }] 33 16 #[] #[{ accessFlags := 24, nameIndex := 28, descriptorIndex := 29, attributes := #[] }, { accessFlags := 26, nameIndex := 38, descriptorIndex := 39, attributes := #[] }, { accessFlags := 25, nameIndex := 121, descriptorIndex := 25, attributes := #[] }, { accessFlags := 25, nameIndex := 131, descriptorIndex := 25, attributes := #[] }, { accessFlags := 25, nameIndex := 137, descriptorIndex := 25, attributes := #[] }, { accessFlags := 25, nameIndex := 143, descriptorIndex := 25, attributes := #[] }, { accessFlags := 25, nameIndex := 53, descriptorIndex := 25, attributes := #[] }, { accessFlags := 25, nameIndex := 24, descriptorIndex := 25, attributes := #[] }, { accessFlags := 25, nameIndex := 162, descriptorIndex := 25, attributes := #[] }, { accessFlags := 25, nameIndex := 187, descriptorIndex := 25, attributes := #[] }, { accessFlags := 26, nameIndex := 48, descriptorIndex := 25, attributes := #[] }, { accessFlags := 25, nameIndex := 277, descriptorIndex := 25, attributes := #[] }, { accessFlags := 25, nameIndex := 280, descriptorIndex := 25, attributes := #[] }, { accessFlags := 25, nameIndex := 282, descriptorIndex := 25, attributes := #[] }, { accessFlags := 25, nameIndex := 284, descriptorIndex := 25, attributes := #[] }, { accessFlags := 25, nameIndex := 286, descriptorIndex := 25, attributes := #[] }, { accessFlags := 25, nameIndex := 288, descriptorIndex := 25, attributes := #[] }, { accessFlags := 25, nameIndex := 290, descriptorIndex := 25, attributes := #[] }, { accessFlags := 25, nameIndex := 292, descriptorIndex := 25, attributes := #[] }, { accessFlags := 26, nameIndex := 108, descriptorIndex := 109, attributes := #[] }, { accessFlags := 25, nameIndex := 294, descriptorIndex := 25, attributes := #[] }])
  fields := #[{ name := "U", type := (.object "jdk/internal/misc/Unsafe"), accessFlags := 24, slot := 0, constantValue := 0 }, { name := "BIG_ENDIAN", type := .boolean, accessFlags := 26, slot := 1, constantValue := 0 }, { name := "LOG2_ARRAY_BOOLEAN_INDEX_SCALE", type := .int, accessFlags := 25, slot := 2, constantValue := 0 }, { name := "LOG2_ARRAY_BYTE_INDEX_SCALE", type := .int, accessFlags := 25, slot := 3, constantValue := 0 }, { name := "LOG2_ARRAY_CHAR_INDEX_SCALE", type := .int, accessFlags := 25, slot := 4, constantValue := 0 }, { name := "LOG2_ARRAY_SHORT_INDEX_SCALE", type := .int, accessFlags := 25, slot := 5, constantValue := 0 }, { name := "LOG2_ARRAY_INT_INDEX_SCALE", type := .int, accessFlags := 25, slot := 6, constantValue := 0 }, { name := "LOG2_ARRAY_LONG_INDEX_SCALE", type := .int, accessFlags := 25, slot := 7, constantValue := 0 }, { name := "LOG2_ARRAY_FLOAT_INDEX_SCALE", type := .int, accessFlags := 25, slot := 8, constantValue := 0 }, { name := "LOG2_ARRAY_DOUBLE_INDEX_SCALE", type := .int, accessFlags := 25, slot := 9, constantValue := 0 }, { name := "LOG2_BYTE_BIT_SIZE", type := .int, accessFlags := 26, slot := 10, constantValue := 0 }, { name := "T_BOOLEAN", type := .int, accessFlags := 25, slot := 11, constantValue := 0 }, { name := "T_CHAR", type := .int, accessFlags := 25, slot := 12, constantValue := 0 }, { name := "T_FLOAT", type := .int, accessFlags := 25, slot := 13, constantValue := 0 }, { name := "T_DOUBLE", type := .int, accessFlags := 25, slot := 14, constantValue := 0 }, { name := "T_BYTE", type := .int, accessFlags := 25, slot := 15, constantValue := 0 }, { name := "T_SHORT", type := .int, accessFlags := 25, slot := 16, constantValue := 0 }, { name := "T_INT", type := .int, accessFlags := 25, slot := 17, constantValue := 0 }, { name := "T_LONG", type := .int, accessFlags := 25, slot := 18, constantValue := 0 }, { name := "JLA", type := (.object "jdk/internal/access/JavaLangAccess"), accessFlags := 26, slot := 19, constantValue := 0 }, { name := "SOFT_MAX_ARRAY_LENGTH", type := .int, accessFlags := 25, slot := 20, constantValue := 0 }]
  methods := #[k18m0]
  instanceTypes := #[]
  staticTypes := #[(.object "jdk/internal/misc/Unsafe"), .boolean, .int, .int, .int, .int, .int, .int, .int, .int, .int, .int, .int, .int, .int, .int, .int, .int, .int, (.object "jdk/internal/access/JavaLangAccess"), .int]
  resolved := Array.replicate 378 none
  statics := none }

def pool19 : Array CpInfo := pool [(1, u "java/lang/Cloneable"), (0, .class_ 1), (0, u "java/lang/Object"), (0, .class_ 3)] 3

/-- java/lang/Cloneable -/
def k19 : Class := { plain "java/lang/Cloneable" (some 0) with
  accessFlags := 1537
  interfaces := #[]
  cf := some (fileOf pool19 2 #[] #[] 1537 4 #[] #[])
  fields := #[]
  methods := #[]
  instanceTypes := #[]
  staticTypes := #[]
  resolved := Array.replicate 8 none
  statics := none }

/-- the primitive byte -/
def k20 : Class := { plain "byte" none with kind := .primitive 'B', accessFlags := 0x411 }
/-- [B -/
def k21 : Class := { plain "[B" (some 0) with kind := .array 20 .byte, interfaces := #[19, 4], accessFlags := 1041 }

/-- the primitive char -/
def k22 : Class := { plain "char" none with kind := .primitive 'C', accessFlags := 0x411 }
/-- [C -/
def k23 : Class := { plain "[C" (some 0) with kind := .array 22 .char, interfaces := #[19, 4], accessFlags := 1041 }

/-- the primitive int -/
def k24 : Class := { plain "int" none with kind := .primitive 'I', accessFlags := 0x411 }
/-- [I -/
def k25 : Class := { plain "[I" (some 0) with kind := .array 24 .int, interfaces := #[19, 4], accessFlags := 1041 }

def heap : Heap := #[{ cls := 6, slots := #[.ref 3, .ref 4, .null], vm := .statics 6 },
  { cls := 9, slots := #[.long 0, .int 1, .null, .int 0, .null, .int 0, .int 0], vm := .statics 9 },
  { cls := 17, slots := #[.null, .null, .null], vm := .statics 17 },
  { cls := 6, slots := #[.null, .int 0, .int 0, .null], vm := .none },
  { cls := 6, slots := #[.null, .int 1, .int 0, .null], vm := .none }]
def classes : Array Class := #[k0, k1, k2, k3, k4, k5, k6, k7, k8, k9, k10, k11, k12, k13, k14, k15, k16, k17, k18, k19, k20, k21, k22, k23, k24, k25]
def interned : List (Array UInt16 × Addr) := []
def slotsUsed : Nat := 21
def theMethod : MethodId := ⟨1, 3⟩
def args0 : Array Value := #[.int 5, .int 5, .int 5, .int 5, .int 5, .int 5]
def aboutOver (below : List Frame) : State where
  vm := { classes := classes, interned := interned.toArray }
  heap := heap
  slotsUsed := slotsUsed
  threads := #[{ frames := .invoking theMethod args0 :: below }]
def below0 : List Frame := [.native { method := ⟨0, 0⟩, args := #[] }]
def about1 : State := aboutOver below0
def p0 : Program := .bare "" "" ""
def e0 : Env := launch0.env 0 0 0
theorem w_frames : about1.frames = Frame.invoking theMethod args0 :: below0 := rfl
set_option maxRecDepth 65536 in
theorem w_args : argsFit about1.vm theMethod args0 = true := by decide +kernel
set_option maxRecDepth 65536 in
theorem w_heap : heapFits about1 = true := by decide +kernel
set_option maxRecDepth 65536 in
theorem w_runnable : about1.curStatus? = some .runnable := by decide +kernel
set_option maxRecDepth 65536 in
theorem w_alone : about1.alone = true := by decide +kernel
set_option maxRecDepth 65536 in
theorem w_named : about1.methodNamed? x = some theMethod := by decide +kernel
set_option maxRecDepth 65536 in
theorem w_hears : about1.hears theMethod below0 = true := by decide +kernel
set_option maxRecDepth 65536 in
theorem w_ripe : about1.ripe theMethod args0 below0 = true := by decide +kernel
theorem w_running : about1.status = .running := rfl
set_option maxRecDepth 65536 in
theorem w_room : about1.hasRoom e0.platform room_1 = true :=
  launch0.hasRoom_least _ room_1 (by decide +kernel) (by decide +kernel) (by decide +kernel) (by decide +kernel) (by decide +kernel) (by decide +kernel)
theorem allAtoms_all (ts : List Jvm.Cond) (a : Array Jvm.Value) (st : Jvm.State) : (allAtoms ts).before a st = ts.all (fun c => c.before a st) := by
  induction ts with
  | nil => rfl
  | cons c t ih =>
    show (Jvm.Cond.and c (allAtoms t)).before a st = _
    rw [Jvm.Cond.before_and, ih, List.all_cons]
def words1 : List Jvm.Cond := Jvm.Cond.code x code maxLocals ret :: tables_1
/-- a 'code' word, met by the world's own term for the bytes: nothing is compared byte by byte -/
theorem code_word {y : MethodName} {bytes : ByteArray} {mx : Nat} {rt : Option FieldType} {a : Array Value} {s : State} {m : MethodId} {meth : Method} {c : Code} (h1 : s.methodNamed? y = some m) (h2 : s.vm.method? m = some meth) (h3 : meth.code = some c) (h4 : c.code = bytes)
    (h5 : (c.maxLocals == mx && c.exceptionTable.isEmpty && decide (c.maxStack ≤ mostOperands) && decide (meth.sig.returnType = rt) && !meth.locks && decide (parseMethodDescriptor y.desc = some meth.sig)) = true) : (Jvm.Cond.code y bytes mx rt).before a s = true := by
  simp only [Bool.and_eq_true, beq_iff_eq, Bool.not_eq_true', decide_eq_true_eq] at h5
  obtain ⟨⟨⟨⟨⟨g1, g2⟩, g3⟩, g4⟩, g5⟩, g6⟩ := h5
  simp [Cond.before, Cond.holds, Cond.value, h1, h2, h3, h4, g1, g2, g3, g4, g5, g6]
def isCode : Jvm.Cond → Bool
  | .code _ _ _ _ => true
  | _ => false
theorem all_split {L : List Jvm.Cond} {P : Jvm.Cond → Bool} (h1 : L.all (fun c => isCode c || P c) = true) (h2 : ∀ c ∈ L.filter isCode, P c = true) : L.all P = true := by
  refine List.all_eq_true.mpr fun c hc => ?_
  have h := List.all_eq_true.mp h1 c hc
  rcases Bool.eq_false_or_eq_true (isCode c) with hi | hi
  · exact h2 c (List.mem_filter.mpr ⟨hc, hi⟩)
  · simpa [hi] using h
set_option maxRecDepth 65536 in
theorem w_c0 : (Jvm.Cond.code x code maxLocals ret).before args0 about1 = true := code_word (m := ⟨1, 3⟩) (meth := k1m3) (c := k1c3) (by decide +kernel) rfl rfl rfl (by decide +kernel)
set_option maxRecDepth 65536 in
theorem w_c1 : (Jvm.Cond.code ({ cls := "java/lang/String", name := "<init>", desc := "([C)V" } : Jvm.MethodName) jdk_42_method_3_code (2 : Nat) (Option.none : Option Jvm.ClassFile.FieldType)).before args0 about1 = true := code_word (m := ⟨9, 1⟩) (meth := k9m1) (c := k9c1) (by decide +kernel) rfl rfl rfl (by decide +kernel)
set_option maxRecDepth 65536 in
theorem w_c2 : (Jvm.Cond.code ({ cls := "java/lang/String", name := "<init>", desc := "([CIILjava/lang/Void;)V" } : Jvm.MethodName) jdk_42_method_149_code (6 : Nat) (Option.none : Option Jvm.ClassFile.FieldType)).before args0 about1 = true := code_word (m := ⟨9, 3⟩) (meth := k9m3) (c := k9c3) (by decide +kernel) rfl rfl rfl (by decide +kernel)
set_option maxRecDepth 65536 in
theorem w_c3 : (Jvm.Cond.code ({ cls := "java/lang/Object", name := "<init>", desc := "()V" } : Jvm.MethodName) object_method_1_code (1 : Nat) (Option.none : Option Jvm.ClassFile.FieldType)).before args0 about1 = true := code_word (m := ⟨0, 0⟩) (meth := k0m0) (c := k0c0) (by decide +kernel) rfl rfl rfl (by decide +kernel)
set_option maxRecDepth 65536 in
theorem w_c4 : (Jvm.Cond.code ({ cls := "java/lang/StringUTF16", name := "compress", desc := "([CII)[B" } : Jvm.MethodName) jdk_52_method_16_code (6 : Nat) (Option.some (Jvm.ClassFile.FieldType.array Jvm.ClassFile.FieldType.byte))).before args0 about1 = true := code_word (m := ⟨10, 2⟩) (meth := k10m2) (c := k10c2) (by decide +kernel) rfl rfl rfl (by decide +kernel)
set_option maxRecDepth 65536 in
theorem w_c5 : (Jvm.Cond.code ({ cls := "java/lang/StringUTF16", name := "compress", desc := "([CI[BII)I" } : Jvm.MethodName) jdk_52_method_21_code (7 : Nat) (Option.some Jvm.ClassFile.FieldType.int)).before args0 about1 = true := code_word (m := ⟨10, 3⟩) (meth := k10m3) (c := k10c3) (by decide +kernel) rfl rfl rfl (by decide +kernel)
set_option maxRecDepth 65536 in
theorem w_c6 : (Jvm.Cond.code ({ cls := "java/lang/StringUTF16", name := "coderFromArrayLen", desc := "([BI)B" } : Jvm.MethodName) jdk_52_method_15_code (2 : Nat) (Option.some Jvm.ClassFile.FieldType.byte)).before args0 about1 = true := code_word (m := ⟨10, 1⟩) (meth := k10m1) (c := k10c1) (by decide +kernel) rfl rfl rfl (by decide +kernel)
set_option maxRecDepth 65536 in
theorem w_c7 : (Jvm.Cond.code ({ cls := "java/lang/String", name := "valueOf", desc := "(C)Ljava/lang/String;" } : Jvm.MethodName) jdk_42_method_139_code (1 : Nat) (Option.some (Jvm.ClassFile.FieldType.object "java/lang/String"))).before args0 about1 = true := code_word (m := ⟨9, 2⟩) (meth := k9m2) (c := k9c2) (by decide +kernel) rfl rfl rfl (by decide +kernel)
set_option maxRecDepth 65536 in
theorem w_c8 : (Jvm.Cond.code ({ cls := "java/lang/StringLatin1", name := "canEncode", desc := "(C)Z" } : Jvm.MethodName) jdk_43_method_3_code (1 : Nat) (Option.some Jvm.ClassFile.FieldType.boolean)).before args0 about1 = true := code_word (m := ⟨11, 1⟩) (meth := k11m1) (c := k11c1) (by decide +kernel) rfl rfl rfl (by decide +kernel)
set_option maxRecDepth 65536 in
theorem w_c9 : (Jvm.Cond.code ({ cls := "java/lang/StringLatin1", name := "toBytes", desc := "(C)[B" } : Jvm.MethodName) jdk_43_method_46_code (1 : Nat) (Option.some (Jvm.ClassFile.FieldType.array Jvm.ClassFile.FieldType.byte))).before args0 about1 = true := code_word (m := ⟨11, 2⟩) (meth := k11m2) (c := k11c2) (by decide +kernel) rfl rfl rfl (by decide +kernel)
set_option maxRecDepth 65536 in
theorem w_c10 : (Jvm.Cond.code ({ cls := "java/lang/String", name := "<init>", desc := "([BB)V" } : Jvm.MethodName) jdk_42_method_151_code (3 : Nat) (Option.none : Option Jvm.ClassFile.FieldType)).before args0 about1 = true := code_word (m := ⟨9, 4⟩) (meth := k9m4) (c := k9c4) (by decide +kernel) rfl rfl rfl (by decide +kernel)
set_option maxRecDepth 65536 in
theorem w_c11 : (Jvm.Cond.code ({ cls := "com/example/demitasse/demitasse/source/Position", name := "<init>", desc := "(II)V" } : Jvm.MethodName) prog_31_method_1_code (3 : Nat) (Option.none : Option Jvm.ClassFile.FieldType)).before args0 about1 = true := code_word (m := ⟨14, 0⟩) (meth := k14m0) (c := k14c0) (by decide +kernel) rfl rfl rfl (by decide +kernel)
set_option maxRecDepth 65536 in
theorem w_c12 : (Jvm.Cond.code ({ cls := "java/lang/Record", name := "<init>", desc := "()V" } : Jvm.MethodName) jdk_30_method_1_code (1 : Nat) (Option.none : Option Jvm.ClassFile.FieldType)).before args0 about1 = true := code_word (m := ⟨12, 0⟩) (meth := k12m0) (c := k12c0) (by decide +kernel) rfl rfl rfl (by decide +kernel)
set_option maxRecDepth 65536 in
theorem w_c13 : (Jvm.Cond.code ({ cls := "com/example/demitasse/demitasse/source/Diagnostic", name := "<init>", desc := "(Lcom/example/demitasse/demitasse/source/Diagnostic$Kind;Lcom/example/demitasse/demitasse/source/Position;Ljava/lang/String;)V" } : Jvm.MethodName) prog_26_method_1_code (4 : Nat) (Option.none : Option Jvm.ClassFile.FieldType)).before args0 about1 = true := code_word (m := ⟨13, 0⟩) (meth := k13m0) (c := k13c0) (by decide +kernel) rfl rfl rfl (by decide +kernel)
set_option maxRecDepth 65536 in
theorem w_c14 : (Jvm.Cond.code ({ cls := "com/example/demitasse/demitasse/source/DiagnosticCompareToPinLaw", name := "expectedSign", desc := "(IIII)I" } : Jvm.MethodName) method_3_code (4 : Nat) (Option.some Jvm.ClassFile.FieldType.int)).before args0 about1 = true := code_word (m := ⟨1, 2⟩) (meth := k1m2) (c := k1c2) (by decide +kernel) rfl rfl rfl (by decide +kernel)
set_option maxRecDepth 65536 in
theorem w_c15 : (Jvm.Cond.code ({ cls := "com/example/demitasse/demitasse/source/Diagnostic", name := "compareTo", desc := "(Lcom/example/demitasse/demitasse/source/Diagnostic;)I" } : Jvm.MethodName) prog_26_method_5_code (2 : Nat) (Option.some Jvm.ClassFile.FieldType.int)).before args0 about1 = true := code_word (m := ⟨13, 1⟩) (meth := k13m1) (c := k13c1) (by decide +kernel) rfl rfl rfl (by decide +kernel)
set_option maxRecDepth 65536 in
theorem w_c16 : (Jvm.Cond.code ({ cls := "com/example/demitasse/demitasse/source/Position", name := "compareTo", desc := "(Lcom/example/demitasse/demitasse/source/Position;)I" } : Jvm.MethodName) prog_31_method_2_code (3 : Nat) (Option.some Jvm.ClassFile.FieldType.int)).before args0 about1 = true := code_word (m := ⟨14, 1⟩) (meth := k14m1) (c := k14c1) (by decide +kernel) rfl rfl rfl (by decide +kernel)
set_option maxRecDepth 65536 in
theorem w_c17 : (Jvm.Cond.code ({ cls := "java/lang/Integer", name := "compare", desc := "(II)I" } : Jvm.MethodName) jdk_33_method_40_code (2 : Nat) (Option.some Jvm.ClassFile.FieldType.int)).before args0 about1 = true := code_word (m := ⟨16, 0⟩) (meth := k16m0) (c := k16c0) (by decide +kernel) rfl rfl rfl (by decide +kernel)
set_option maxRecDepth 65536 in
theorem w_c18 : (Jvm.Cond.code ({ cls := "com/example/demitasse/demitasse/source/DiagnosticCompareToPinLaw", name := "sign", desc := "(I)I" } : Jvm.MethodName) method_2_code (1 : Nat) (Option.some Jvm.ClassFile.FieldType.int)).before args0 about1 = true := code_word (m := ⟨1, 1⟩) (meth := k1m1) (c := k1c1) (by decide +kernel) rfl rfl rfl (by decide +kernel)
def codes1 : List Jvm.Cond := [Jvm.Cond.code x code maxLocals ret, Jvm.Cond.code ({ cls := "java/lang/String", name := "<init>", desc := "([C)V" } : Jvm.MethodName) jdk_42_method_3_code (2 : Nat) (Option.none : Option Jvm.ClassFile.FieldType), Jvm.Cond.code ({ cls := "java/lang/String", name := "<init>", desc := "([CIILjava/lang/Void;)V" } : Jvm.MethodName) jdk_42_method_149_code (6 : Nat) (Option.none : Option Jvm.ClassFile.FieldType), Jvm.Cond.code ({ cls := "java/lang/Object", name := "<init>", desc := "()V" } : Jvm.MethodName) object_method_1_code (1 : Nat) (Option.none : Option Jvm.ClassFile.FieldType), Jvm.Cond.code ({ cls := "java/lang/StringUTF16", name := "compress", desc := "([CII)[B" } : Jvm.MethodName) jdk_52_method_16_code (6 : Nat) (Option.some (Jvm.ClassFile.FieldType.array Jvm.ClassFile.FieldType.byte)), Jvm.Cond.code ({ cls := "java/lang/StringUTF16", name := "compress", desc := "([CI[BII)I" } : Jvm.MethodName) jdk_52_method_21_code (7 : Nat) (Option.some Jvm.ClassFile.FieldType.int), Jvm.Cond.code ({ cls := "java/lang/StringUTF16", name := "coderFromArrayLen", desc := "([BI)B" } : Jvm.MethodName) jdk_52_method_15_code (2 : Nat) (Option.some Jvm.ClassFile.FieldType.byte), Jvm.Cond.code ({ cls := "java/lang/String", name := "valueOf", desc := "(C)Ljava/lang/String;" } : Jvm.MethodName) jdk_42_method_139_code (1 : Nat) (Option.some (Jvm.ClassFile.FieldType.object "java/lang/String")), Jvm.Cond.code ({ cls := "java/lang/StringLatin1", name := "canEncode", desc := "(C)Z" } : Jvm.MethodName) jdk_43_method_3_code (1 : Nat) (Option.some Jvm.ClassFile.FieldType.boolean), Jvm.Cond.code ({ cls := "java/lang/StringLatin1", name := "toBytes", desc := "(C)[B" } : Jvm.MethodName) jdk_43_method_46_code (1 : Nat) (Option.some (Jvm.ClassFile.FieldType.array Jvm.ClassFile.FieldType.byte)), Jvm.Cond.code ({ cls := "java/lang/String", name := "<init>", desc := "([BB)V" } : Jvm.MethodName) jdk_42_method_151_code (3 : Nat) (Option.none : Option Jvm.ClassFile.FieldType), Jvm.Cond.code ({ cls := "com/example/demitasse/demitasse/source/Position", name := "<init>", desc := "(II)V" } : Jvm.MethodName) prog_31_method_1_code (3 : Nat) (Option.none : Option Jvm.ClassFile.FieldType), Jvm.Cond.code ({ cls := "java/lang/Record", name := "<init>", desc := "()V" } : Jvm.MethodName) jdk_30_method_1_code (1 : Nat) (Option.none : Option Jvm.ClassFile.FieldType), Jvm.Cond.code ({ cls := "com/example/demitasse/demitasse/source/Diagnostic", name := "<init>", desc := "(Lcom/example/demitasse/demitasse/source/Diagnostic$Kind;Lcom/example/demitasse/demitasse/source/Position;Ljava/lang/String;)V" } : Jvm.MethodName) prog_26_method_1_code (4 : Nat) (Option.none : Option Jvm.ClassFile.FieldType), Jvm.Cond.code ({ cls := "com/example/demitasse/demitasse/source/DiagnosticCompareToPinLaw", name := "expectedSign", desc := "(IIII)I" } : Jvm.MethodName) method_3_code (4 : Nat) (Option.some Jvm.ClassFile.FieldType.int), Jvm.Cond.code ({ cls := "com/example/demitasse/demitasse/source/Diagnostic", name := "compareTo", desc := "(Lcom/example/demitasse/demitasse/source/Diagnostic;)I" } : Jvm.MethodName) prog_26_method_5_code (2 : Nat) (Option.some Jvm.ClassFile.FieldType.int), Jvm.Cond.code ({ cls := "com/example/demitasse/demitasse/source/Position", name := "compareTo", desc := "(Lcom/example/demitasse/demitasse/source/Position;)I" } : Jvm.MethodName) prog_31_method_2_code (3 : Nat) (Option.some Jvm.ClassFile.FieldType.int), Jvm.Cond.code ({ cls := "java/lang/Integer", name := "compare", desc := "(II)I" } : Jvm.MethodName) jdk_33_method_40_code (2 : Nat) (Option.some Jvm.ClassFile.FieldType.int), Jvm.Cond.code ({ cls := "com/example/demitasse/demitasse/source/DiagnosticCompareToPinLaw", name := "sign", desc := "(I)I" } : Jvm.MethodName) method_2_code (1 : Nat) (Option.some Jvm.ClassFile.FieldType.int)]
set_option maxRecDepth 65536 in
theorem codes_eq : words1.filter isCode = codes1 := rfl
theorem w_codes : ∀ c ∈ words1.filter isCode, c.before args0 about1 = true := by
  rw [codes_eq]
  intro c hc
  simp only [codes1, List.mem_cons, List.not_mem_nil, or_false] at hc
  rcases hc with rfl | rfl | rfl | rfl | rfl | rfl | rfl | rfl | rfl | rfl | rfl | rfl | rfl | rfl | rfl | rfl | rfl | rfl | rfl
  · exact w_c0
  · exact w_c1
  · exact w_c2
  · exact w_c3
  · exact w_c4
  · exact w_c5
  · exact w_c6
  · exact w_c7
  · exact w_c8
  · exact w_c9
  · exact w_c10
  · exact w_c11
  · exact w_c12
  · exact w_c13
  · exact w_c14
  · exact w_c15
  · exact w_c16
  · exact w_c17
  · exact w_c18
set_option maxRecDepth 65536 in
theorem w_t1 : (words1.take 24).all (fun c => isCode c || c.before args0 about1) = true := by decide +kernel
set_option maxRecDepth 65536 in
theorem w_t2 : ((words1.drop 24).take 24).all (fun c => isCode c || c.before args0 about1) = true := by decide +kernel
set_option maxRecDepth 65536 in
theorem w_t3 : (((words1.drop 24).drop 24).take 24).all (fun c => isCode c || c.before args0 about1) = true := by decide +kernel
set_option maxRecDepth 65536 in
theorem w_t4 : ((((words1.drop 24).drop 24).drop 24).take 24).all (fun c => isCode c || c.before args0 about1) = true := by decide +kernel
set_option maxRecDepth 65536 in
theorem w_t5 : ((((words1.drop 24).drop 24).drop 24).drop 24).all (fun c => isCode c || c.before args0 about1) = true := by decide +kernel
theorem w_tables : (allAtoms (Jvm.Cond.code x code maxLocals ret :: tables_1)).before args0 about1 = true := by
  rw [allAtoms_all]
  show words1.all (fun c => c.before args0 about1) = true
  refine all_split ?_ w_codes
  rw [← List.take_append_drop 24 words1, List.all_append, w_t1, ← List.take_append_drop 24 (words1.drop 24), List.all_append, w_t2, ← List.take_append_drop 24 ((words1.drop 24).drop 24), List.all_append, w_t3, ← List.take_append_drop 24 (((words1.drop 24).drop 24).drop 24), List.all_append, w_t4, w_t5]
  rfl
set_option maxRecDepth 65536 in
theorem w_rest : rest_1_c.before args0 about1 = true := by decide +kernel
set_option maxRecDepth 65536 in
theorem w_case : (Jvm.Cond.and given_1 narrow_1).before args0 about1 = true := by decide +kernel
theorem w_applies : (headSpec (Jvm.Cond.code x code maxLocals ret :: tables_1) room_1).applies x e0.platform about1 = true :=
  (Spec.applies_iff w_frames).mpr ⟨w_running, w_runnable, w_alone, w_named, w_hears, w_ripe, w_room, w_tables⟩
theorem atStart : AtStart classFile x code maxLocals ret World_1 tables_1 room_1 Calls_1 rest_1 Pre_1 launch0 p0 e0 about1 theMethod args0 below0 :=
  ⟨lists_1, trivial, launch0.admits_env _ _ _, launch0.least_env, fairChoices_fair.cas, fairChoices_fair.clock, w_frames, w_args, w_heap, w_applies, trivial, w_rest, w_case⟩
end start1
theorem witness_1 : WitnessClaimed_1 := ⟨start1.p0, start1.e0, start1.about1, start1.theMethod, start1.args0, start1.below0, start1.atStart⟩
end Jvm.Pilot.@@N@@
