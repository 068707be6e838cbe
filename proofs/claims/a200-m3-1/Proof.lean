import JvmDerived
import JvmDerived.Pilot.@@N@@Statement
import JvmDerived.Pilot.@@N@@Code
set_option linter.unusedVariables false
set_option linter.unusedSimpArgs false
@@BLOCK:NumsL.lean.txt@@
/- laws to paste: Road.backV (cut by pick.py; bodies as the Statement names them) -/
namespace Jvm.Pilot.@@N@@
namespace StrChars
open Jvm Sem ClassFile Op Lib Jvm.Stand Jvm.Free.XT Jvm.Free.ALB Jvm.Free.JM Jvm.Free
open Jvm.Lib.Cold (StaticIs)
/-- a char array whose places are chars -/
def Ch (a : Addr) (A : Cell) (U : State) : Prop := Arr .char a A U ∧ Typed .char A
theorem Ch.mv {a : Addr} {A : Cell} {U U' : State} (h : Ch a A U) (hal : U.vm.Alike U'.vm) (hh : U'.heap = U.heap) : Ch a A U' := ⟨h.1.mv hal hh, h.2⟩
theorem Ch.keep {a : Addr} {A : Cell} {U U' : State} (h : Ch a A U) (hal : U.vm.Alike U'.vm) (hk : U'.heap[a]? = some A) : Ch a A U' := ⟨h.1.keep hal hk, h.2⟩
/-- what place i of a char[]'s cell holds -/
def cv (A : Cell) (i : Nat) : Int32 := match A.slots[i]? with | some (.int x) => x | _ => 0
theorem Ch.get {a : Addr} {A : Cell} {U : State} (h : Ch a A U) {i : Nat} (hi : i < A.slots.size) : A.slots[i]? = some (.int (cv A i)) := by
  have e := Array.getElem?_eq_getElem hi
  have f := h.2 i _ e
  unfold cv; rw [e]
  generalize A.slots[i] = v at f
  cases v <;> simp [fits] at f ⊢
/-- the byte that i2b leaves of a char -/
def lo8 (x : Int32) : Int32 := x.toInt8.toInt32
theorem fits_lo8 (y : Int32) : fits .byte (.int (lo8 y)) = true := by
  have h1 := y.toInt8.le_toInt
  have h2 := y.toInt8.toInt_lt
  simp only [lo8, fits, Bool.and_eq_true, decide_eq_true_eq, Int32.le_iff_toInt_le, Int8.toInt_toInt32, show (-128 : Int32).toInt = -128 from by decide, show (127 : Int32).toInt = 127 from by decide]
  omega
/-- A' is A but that each place j of lo .. hi - 1 holds f j -/
def Laid (A A' : Cell) (lo hi : Nat) (f : Nat → Value) : Prop := A'.cls = A.cls ∧ A'.vm = A.vm ∧ A'.slots.size = A.slots.size ∧ ∀ i, A'.slots[i]? = if lo ≤ i ∧ i < hi then some (f i) else A.slots[i]?
theorem Laid.zero (A : Cell) (lo : Nat) (f : Nat → Value) : Laid A A lo (lo + 0) f := ⟨rfl, rfl, rfl, fun i => by rw [if_neg (by omega)]⟩
theorem Laid.step {A Ak : Cell} {lo k : Nat} {f : Nat → Value} {v : Value} (h : Laid A Ak lo k f) (hlo : lo ≤ k) (hk : k < Ak.slots.size) (hv : v = f k) : Laid A (Ak.setSlot k v) lo (k + 1) f := by
  refine ⟨h.1, h.2.1, by simpa [Cell.setSlot] using h.2.2.1, fun i => ?_⟩
  by_cases e : k = i
  · subst e; rw [Cell.slots_setSlot_self v hk, if_pos (by omega), hv]
  · rw [Cell.slots_setSlot_ne v e, h.2.2.2 i]
    by_cases q : lo ≤ i ∧ i < k
    · rw [if_pos q, if_pos (by omega)]
    · rw [if_neg q, if_neg (by omega)]
def U16 : String := "java/lang/StringUTF16"
namespace Cmp5
def yN : MethodName := ⟨"java/lang/StringUTF16", "compress", "([CI[BII)I"⟩
abbrev yB : ByteArray := jdk_52_method_21_code
theorem d0 : decode yB 0 = .ok (.iconst 0, 1) := by decide +kernel
theorem d1 : decode yB 1 = .ok (.istore 5, 2) := by decide +kernel
theorem d3 : decode yB 3 = .ok (.iload 5, 2) := by decide +kernel
theorem d5 : decode yB 5 = .ok (.iload 4, 2) := by decide +kernel
theorem d7 : decode yB 7 = .ok (.if_icmp (.ge) 37, 3) := by decide +kernel
theorem d10 : decode yB 10 = .ok (.aload_n 0, 1) := by decide +kernel
theorem d11 : decode yB 11 = .ok (.iload_n 1, 1) := by decide +kernel
theorem d12 : decode yB 12 = .ok (.caload, 1) := by decide +kernel
theorem d13 : decode yB 13 = .ok (.istore 6, 2) := by decide +kernel
theorem d15 : decode yB 15 = .ok (.iload 6, 2) := by decide +kernel
theorem d17 : decode yB 17 = .ok (.sipush 255, 3) := by decide +kernel
theorem d20 : decode yB 20 = .ok (.if_icmp (.le) 6, 3) := by decide +kernel
theorem d26 : decode yB 26 = .ok (.aload_n 2, 1) := by decide +kernel
theorem d27 : decode yB 27 = .ok (.iload_n 3, 1) := by decide +kernel
theorem d28 : decode yB 28 = .ok (.iload 6, 2) := by decide +kernel
theorem d30 : decode yB 30 = .ok (.i2b, 1) := by decide +kernel
theorem d31 : decode yB 31 = .ok (.bastore, 1) := by decide +kernel
theorem d32 : decode yB 32 = .ok (.iinc 1 1, 3) := by decide +kernel
theorem d35 : decode yB 35 = .ok (.iinc 3 1, 3) := by decide +kernel
theorem d38 : decode yB 38 = .ok (.iinc 5 1, 3) := by decide +kernel
theorem d41 : decode yB 41 = .ok (.goto (-38), 3) := by decide +kernel
theorem d44 : decode yB 44 = .ok (.iload 4, 2) := by decide +kernel
theorem d46 : decode yB 46 = .ok (.ireturn, 1) := by decide +kernel
def site : List Cond := []
def tab : Cond := tabOf yN yB 7 (some .int) site
def P (b : Addr) (A : Cell) (d : Addr) (B : Cell) (o q len : Nat) (args : Array Value) (s : State) : Prop := args = #[.ref b, .int (Int32.ofNat o), .ref d, .int (Int32.ofNat q), .int (Int32.ofNat len)] ∧ Ch b A s ∧ Arr .byte d B s ∧ b ≠ d ∧ o + len ≤ A.slots.size ∧ q + len ≤ B.slots.size ∧ ∀ i, i < len → ¬ 255 < cv A (o + i)
def E (b : Addr) (A : Cell) (d : Addr) (B : Cell) (o q len : Nat) (r : Option Value) (s u : State) : Prop := r = some (.int (Int32.ofNat len)) ∧ ∃ B', Put d B' s u ∧ Laid B B' q (q + len) (fun j => Value.int (lo8 (cv A (o + (j - q)))))
/-- no char of the range above 255: len; the places written hold each char's low byte -/
theorem law (l : Launch) (b : Addr) (A : Cell) (d : Addr) (B : Cell) (o q len : Nat) : Law l yN 5 5 0 0 yB 7 (some .int) site (P b A d B o q len) (E b A d B o q len) (copyLocs d q len) 0 0 := by
  refine Law.of_walk (plainFor_of_name (by decide +kernel)) (by decide +kernel) (by decide +kernel) (by decide) (fun _ _ h => by rw [h.1]; rfl) (fun _ U U' hal hh h => ⟨h.1, h.2.1.mv hal hh, h.2.2.1.mv hal hh, h.2.2.2⟩) (fun r U U' V V' h1 hal h2 h => ⟨h.1, h.2.elim fun B' q => ⟨B', q.1.mv h1 h2, q.2⟩⟩) ?_
  intro p e s m args below meth c s₁ X0 hexec hbytes hml hret hlk hnm hown hh0 W hP
  obtain ⟨rfl, hA, hB, hne, l1, l2, hp⟩ := hP
  have c1 : Steps p.tables e below (s₁.setTop (entryFrame m #[.ref b, .int (Int32.ofNat o), .ref d, .int (Int32.ofNat q), .int (Int32.ofNat len)] 7)) (s₁.setTop (mkF m 0 #[.val (.ref b), .val (.int (Int32.ofNat o)), .val (.ref d), .val (.int (Int32.ofNat q)), .val (.int (Int32.ofNat len)), .unset, .unset] [])) := entry rfl
  have hA0 := hA.1.mv X0.warmed.alike hh0
  have hB0 := hB.mv X0.warmed.alike hh0
  have a31 := hA.1.2.2.2
  have c2 : Steps p.tables e below (s₁.setTop (entryFrame m #[.ref b, .int (Int32.ofNat o), .ref d, .int (Int32.ofNat q), .int (Int32.ofNat len)] 7)) (s₁.setTop (mkF m 3 #[.val (.ref b), .val (.int (Int32.ofNat o)), .val (.ref d), .val (.int (Int32.ofNat q)), .val (.int (Int32.ofNat len)), .val (.int 0), .unset] [])) := c1.trans (by
    refine iconstV X0.here hexec rfl 0 (hb hbytes d0) (by decide) ?_
    refine XS.istore X0.here hexec rfl (hb hbytes d1) rfl rfl ?_
    exact Steps.refl _)
  have loop : ∀ (r i : Nat), i + r = len → ∀ (z : Slot), (z = .unset ∨ ∃ w, z = .val w ∧ w.category = 1) → ∀ (Tl : State) (Bk : Cell), Stand p l e { frames := 0, locals := 0, cells := 0, slots := 0 } s m #[.ref b, .int (Int32.ofNat o), .ref d, .int (Int32.ofNat q), .int (Int32.ofNat len)] below meth c Tl ([] ++ copyLocs d q i) 0 0 → Put d Bk s₁ Tl → Laid B Bk q (q + i) (fun j => Value.int (lo8 (cv A (o + (j - q))))) →
      Steps p.tables e below (s₁.setTop (entryFrame m #[.ref b, .int (Int32.ofNat o), .ref d, .int (Int32.ofNat q), .int (Int32.ofNat len)] 7)) (Tl.setTop (mkF m 3 #[.val (.ref b), .val (.int (Int32.ofNat (o + i))), .val (.ref d), .val (.int (Int32.ofNat (q + i))), .val (.int (Int32.ofNat len)), .val (.int (Int32.ofNat i)), z] [])) → ∃ (T' : State) (B' : Cell) (z' : Slot), Stand p l e { frames := 0, locals := 0, cells := 0, slots := 0 } s m #[.ref b, .int (Int32.ofNat o), .ref d, .int (Int32.ofNat q), .int (Int32.ofNat len)] below meth c T' ([] ++ copyLocs d q len) 0 0 ∧ Put d B' s₁ T' ∧ Laid B B' q (q + len) (fun j => Value.int (lo8 (cv A (o + (j - q))))) ∧
      Steps p.tables e below (s₁.setTop (entryFrame m #[.ref b, .int (Int32.ofNat o), .ref d, .int (Int32.ofNat q), .int (Int32.ofNat len)] 7)) (T'.setTop (mkF m 3 #[.val (.ref b), .val (.int (Int32.ofNat (o + len))), .val (.ref d), .val (.int (Int32.ofNat (q + len))), .val (.int (Int32.ofNat len)), .val (.int (Int32.ofNat len)), z'] [])) := by
    intro r
    induction r with
    | zero =>
      intro i hi z hz Tl Bk Xl pl fl cl
      have hil : i = len := by omega
      rw [hil] at Xl fl cl
      exact ⟨Tl, Bk, z, Xl, pl, fl, cl⟩
    | succ r ih =>
      intro i hi z hz Tl Bk Xl pl fl cl
      have all := X0.warmed.alike.symm.trans Xl.warmed.alike
      have hAl := hA0.keep all (pl.other hne hA0.1)
      have hBk := hB0.like all pl.1 fl.1 fl.2.1 fl.2.2.1
      have hlt : q + i < Bk.slots.size := by rw [fl.2.2.1]; omega
      have c3 : Steps p.tables e below (s₁.setTop (entryFrame m #[.ref b, .int (Int32.ofNat o), .ref d, .int (Int32.ofNat q), .int (Int32.ofNat len)] 7)) (Tl.setTop (mkF m 12 #[.val (.ref b), .val (.int (Int32.ofNat (o + i))), .val (.ref d), .val (.int (Int32.ofNat (q + i))), .val (.int (Int32.ofNat len)), .val (.int (Int32.ofNat i)), z] [.int (Int32.ofNat (o + i)), .ref b])) := cl.trans (by
        refine XS.iload Xl.here hexec rfl (hb hbytes d3) rfl ?_
        refine XS.iload Xl.here hexec rfl (hb hbytes d5) rfl ?_
        refine XS.icmpNo Xl.here hexec rfl (hb hbytes d7) rfl (ii_ge_f (lt32 (by omega) (by omega))) ?_
        refine XS.aloadN Xl.here hexec rfl (hb hbytes d10) rfl rfl ?_
        refine XS.iloadN Xl.here hexec rfl (hb hbytes d11) rfl ?_
        exact Steps.refl _)
      have c4 : Steps p.tables e below (s₁.setTop (entryFrame m #[.ref b, .int (Int32.ofNat o), .ref d, .int (Int32.ofNat q), .int (Int32.ofNat len)] 7)) (Tl.setTop (mkF m 13 #[.val (.ref b), .val (.int (Int32.ofNat (o + i))), .val (.ref d), .val (.int (Int32.ofNat (q + i))), .val (.int (Int32.ofNat len)), .val (.int (Int32.ofNat i)), z] [.int (cv A (o + i))])) := c3.trans (by
        refine Xl.aget hexec hAl rfl (hA.get (i := o + i) (by omega)) rfl rfl (hb hbytes d12) ?_
        exact Steps.refl _)
      have c5 : Steps p.tables e below (s₁.setTop (entryFrame m #[.ref b, .int (Int32.ofNat o), .ref d, .int (Int32.ofNat q), .int (Int32.ofNat len)] 7)) (Tl.setTop (mkF m 15 #[.val (.ref b), .val (.int (Int32.ofNat (o + i))), .val (.ref d), .val (.int (Int32.ofNat (q + i))), .val (.int (Int32.ofNat len)), .val (.int (Int32.ofNat i)), .val (.int (cv A (o + i)))] [])) := c4.trans (by
        refine XS.istoreS Xl.here hexec rfl (hb hbytes d13) rfl rfl hz ?_
        exact Steps.refl _)
      have c6 : Steps p.tables e below (s₁.setTop (entryFrame m #[.ref b, .int (Int32.ofNat o), .ref d, .int (Int32.ofNat q), .int (Int32.ofNat len)] 7)) (Tl.setTop (mkF m 31 #[.val (.ref b), .val (.int (Int32.ofNat (o + i))), .val (.ref d), .val (.int (Int32.ofNat (q + i))), .val (.int (Int32.ofNat len)), .val (.int (Int32.ofNat i)), .val (.int (cv A (o + i)))] [.int (lo8 (cv A (o + i))), .int (Int32.ofNat (q + i)), .ref d])) := c5.trans (by
        refine XS.iload Xl.here hexec rfl (hb hbytes d15) rfl ?_
        refine sipushV Xl.here hexec rfl 255 (hb hbytes d17) (by decide) ?_
        refine XS.icmpYes Xl.here hexec rfl (pc0 := 20) rfl (hb hbytes d20) rfl (ii_le_t (hp i (by omega))) (by decide) rfl ?_
        refine XS.aloadN Xl.here hexec rfl (hb hbytes d26) rfl rfl ?_
        refine XS.iloadN Xl.here hexec rfl (hb hbytes d27) rfl ?_
        refine XS.iload Xl.here hexec rfl (hb hbytes d28) rfl ?_
        refine i2b Xl.here hexec rfl (hb hbytes d30) rfl ?_
        exact Steps.refl _)
      obtain ⟨T7, X7, p7, st7⟩ := Xl.aput hexec hBk rfl hlt rfl (fits_lo8 (cv A (o + i))) (g := (mkF m 31 #[.val (.ref b), .val (.int (Int32.ofNat (o + i))), .val (.ref d), .val (.int (Int32.ofNat (q + i))), .val (.int (Int32.ofNat len)), .val (.int (Int32.ofNat i)), .val (.int (cv A (o + i)))] [.int (lo8 (cv A (o + i))), .int (Int32.ofNat (q + i)), .ref d])) rfl (rest := []) rfl (hb hbytes d31)
      have c8 : Steps p.tables e below (s₁.setTop (entryFrame m #[.ref b, .int (Int32.ofNat o), .ref d, .int (Int32.ofNat q), .int (Int32.ofNat len)] 7)) (T7.setTop (mkF m 32 #[.val (.ref b), .val (.int (Int32.ofNat (o + i))), .val (.ref d), .val (.int (Int32.ofNat (q + i))), .val (.int (Int32.ofNat len)), .val (.int (Int32.ofNat i)), .val (.int (cv A (o + i)))] [])) := c6.trans (st7 _ (Steps.refl _))
      have c9 : Steps p.tables e below (s₁.setTop (entryFrame m #[.ref b, .int (Int32.ofNat o), .ref d, .int (Int32.ofNat q), .int (Int32.ofNat len)] 7)) (T7.setTop (mkF m 3 #[.val (.ref b), .val (.int (Int32.ofNat (o + i) + 1)), .val (.ref d), .val (.int (Int32.ofNat (q + i) + 1)), .val (.int (Int32.ofNat len)), .val (.int (Int32.ofNat i + 1)), .val (.int (cv A (o + i)))] [])) := c8.trans (by
        refine iincV X7.here hexec rfl 1 (hb hbytes d32) (by decide) rfl rfl ?_
        refine iincV X7.here hexec rfl 1 (hb hbytes d35) (by decide) rfl rfl ?_
        refine iincV X7.here hexec rfl 1 (hb hbytes d38) (by decide) rfl rfl ?_
        refine XS.goto X7.here hexec rfl (pc0 := 41) rfl (hb hbytes d41) (by decide) rfl ?_
        exact Steps.refl _)
      have c10 : Steps p.tables e below (s₁.setTop (entryFrame m #[.ref b, .int (Int32.ofNat o), .ref d, .int (Int32.ofNat q), .int (Int32.ofNat len)] 7)) (T7.setTop (mkF m 3 #[.val (.ref b), .val (.int (Int32.ofNat (o + (i + 1)))), .val (.ref d), .val (.int (Int32.ofNat (q + (i + 1)))), .val (.int (Int32.ofNat len)), .val (.int (Int32.ofNat (i + 1))), .val (.int (cv A (o + i)))] [])) := by
        have := c9
        rw [succ32, succ32, succ32] at this
        exact this
      exact ih (i + 1) (by omega) _ (Or.inr ⟨_, rfl, rfl⟩) T7 _ (by rw [copyLocs_step, ← List.append_assoc]; exact X7) (pl.trans p7) (fl.step (by omega) hlt (by simp)) c10
  obtain ⟨T9, B9, z9, X9, p9, f9, g9⟩ := loop len 0 (by omega) .unset (Or.inl rfl) s₁ B (by simpa [copyLocs] using X0) ⟨hB0.1, fun _ _ => rfl, rfl⟩ (Laid.zero _ _ _) c2
  have c11 : Steps p.tables e below (s₁.setTop (entryFrame m #[.ref b, .int (Int32.ofNat o), .ref d, .int (Int32.ofNat q), .int (Int32.ofNat len)] 7)) (T9.setTop (mkF m 46 #[.val (.ref b), .val (.int (Int32.ofNat (o + len))), .val (.ref d), .val (.int (Int32.ofNat (q + len))), .val (.int (Int32.ofNat len)), .val (.int (Int32.ofNat len)), z9] [.int (Int32.ofNat len)])) := g9.trans (by
    refine XS.iload X9.here hexec rfl (hb hbytes d3) rfl ?_
    refine XS.iload X9.here hexec rfl (hb hbytes d5) rfl ?_
    refine XS.icmpYes X9.here hexec rfl (pc0 := 7) rfl (hb hbytes d7) rfl (ii_ge_t (nlt32 (by omega) (Nat.le_refl _))) (by decide) rfl ?_
    refine XS.iload X9.here hexec rfl (hb hbytes d44) rfl ?_
    exact Steps.refl _)
  exact ⟨T9, some (.int (Int32.ofNat len)), _, _, _, X9, by simp, rfl, rfl, (fun h => by cases h), ⟨rfl, B9, p9.from hh0, f9⟩, fun fs hl => c11.trans (X9.ireturnOut hexec hret rfl (Or.inl rfl) (hb hbytes d46) hl)⟩
end Cmp5
namespace Cmp3
def yN : MethodName := ⟨"java/lang/StringUTF16", "compress", "([CII)[B"⟩
abbrev yB : ByteArray := jdk_52_method_16_code
theorem d0 : decode yB 0 = .ok (.iload_n 2, 1) := by decide +kernel
theorem d1 : decode yB 1 = .ok (.newarray .byte, 2) := by decide +kernel
theorem d3 : decode yB 3 = .ok (.astore_n 3, 1) := by decide +kernel
theorem d4 : decode yB 4 = .ok (.aload_n 0, 1) := by decide +kernel
theorem d5 : decode yB 5 = .ok (.iload_n 1, 1) := by decide +kernel
theorem d6 : decode yB 6 = .ok (.aload_n 3, 1) := by decide +kernel
theorem d7 : decode yB 7 = .ok (.iconst 0, 1) := by decide +kernel
theorem d8 : decode yB 8 = .ok (.iload_n 2, 1) := by decide +kernel
theorem d9 : decode yB 9 = .ok (.invokestatic 115, 3) := by decide +kernel
theorem d12 : decode yB 12 = .ok (.istore 4, 2) := by decide +kernel
theorem d14 : decode yB 14 = .ok (.iload 4, 2) := by decide +kernel
theorem d16 : decode yB 16 = .ok (.iload_n 2, 1) := by decide +kernel
theorem d17 : decode yB 17 = .ok (.if_icmp (.eq) 40, 3) := by decide +kernel
theorem d57 : decode yB 57 = .ok (.aload_n 3, 1) := by decide +kernel
theorem d58 : decode yB 58 = .ok (.areturn, 1) := by decide +kernel
def site : List Cond := [.arrayClass .byte, Cmp5.tab] ++ staticW U16 115 Cmp5.yN
def tab : Cond := tabOf yN yB 6 (some (.array .byte)) site
def P (b : Addr) (A : Cell) (o len : Nat) (args : Array Value) (s : State) : Prop := args = #[.ref b, .int (Int32.ofNat o), .int (Int32.ofNat len)] ∧ Ch b A s ∧ o + len ≤ A.slots.size ∧ len ≤ 536870912 ∧ ∀ i, i < len → ¬ 255 < cv A (o + i)
def E (b : Addr) (A : Cell) (o len : Nat) (r : Option Value) (s u : State) : Prop := NewArr .byte "[B" len (fun j => .int (lo8 (cv A (o + j)))) r s u ∧ u.heap.size = s.heap.size + 1
/-- no char of the range above 255: a new byte[] of their low bytes -/
theorem law (l : Launch) (b : Addr) (A : Cell) (o len : Nat) : Law l yN 3 3 1 18 yB 6 (some (.array .byte)) site (P b A o len) (E b A o len) [] 1 len := by
  refine Law.of_walk (plainFor_of_name (by decide +kernel)) (by decide +kernel) (by decide +kernel) (by decide) (fun _ _ h => by rw [h.1]; rfl) (fun _ U U' hal hh h => ⟨h.1, h.2.1.mv hal hh, h.2.2⟩) (fun r U U' V V' h1 hal h2 h => ⟨NewArr.mv r U U' V V' h1 hal h2 h.1, by rw [h1, h2]; exact h.2⟩) ?_
  intro p e s m args below meth c s₁ X0 hexec hbytes hml hret hlk hnm hown hh0 W hP
  obtain ⟨rfl, hA, l1, l2, hp⟩ := hP
  have a31 := hA.1.2.2.2
  have c1 : Steps p.tables e below (s₁.setTop (entryFrame m #[.ref b, .int (Int32.ofNat o), .int (Int32.ofNat len)] 6)) (s₁.setTop (mkF m 0 #[.val (.ref b), .val (.int (Int32.ofNat o)), .val (.int (Int32.ofNat len)), .unset, .unset, .unset] [])) := entry rfl
  have c2 : Steps p.tables e below (s₁.setTop (entryFrame m #[.ref b, .int (Int32.ofNat o), .int (Int32.ofNat len)] 6)) (s₁.setTop (mkF m 1 #[.val (.ref b), .val (.int (Int32.ofNat o)), .val (.int (Int32.ofNat len)), .unset, .unset, .unset] [.int (Int32.ofNat len)])) := c1.trans (by
    refine XS.iloadN X0.here hexec rfl (hb hbytes d0) rfl ?_
    exact Steps.refl _)
  obtain ⟨T3, B3, X3, ba3, bs3, bv3, bh3, bf3, st3⟩ := X0.anew hexec (atype := .byte) (wk W (.arrayClass .byte)) rfl (by show len * 1 ≤ _; omega) (by omega) (g := (mkF m 1 #[.val (.ref b), .val (.int (Int32.ofNat o)), .val (.int (Int32.ofNat len)), .unset, .unset, .unset] [.int (Int32.ofNat len)])) rfl (hb hbytes d1) (rest := []) rfl (Nat.le_refl _) (by show 0 + len ≤ len; omega)
  rw [hh0] at ba3 st3
  have kp3 : XT.Kept s T3 := (XT.Kept.of_eq hh0).push bh3
  have hA3 := hA.keep X3.warmed.alike (kp3 _ _ hA.1.1)
  have hne : b ≠ s.heap.size := hA.1.ne
  have c4 : Steps p.tables e below (s₁.setTop (entryFrame m #[.ref b, .int (Int32.ofNat o), .int (Int32.ofNat len)] 6)) (T3.setTop (mkF m 3 #[.val (.ref b), .val (.int (Int32.ofNat o)), .val (.int (Int32.ofNat len)), .unset, .unset, .unset] [.ref s.heap.size])) := c2.trans (st3 _ (Steps.refl _))
  have c5 : Steps p.tables e below (s₁.setTop (entryFrame m #[.ref b, .int (Int32.ofNat o), .int (Int32.ofNat len)] 6)) (T3.setTop (mkF m 9 #[.val (.ref b), .val (.int (Int32.ofNat o)), .val (.int (Int32.ofNat len)), .val (.ref s.heap.size), .unset, .unset] [.int (Int32.ofNat len), .int 0, .ref s.heap.size, .int (Int32.ofNat o), .ref b])) := c4.trans (by
    refine XS.astoreN X3.here hexec rfl (hb hbytes d3) rfl rfl rfl ?_
    refine XS.aloadN X3.here hexec rfl (hb hbytes d4) rfl rfl ?_
    refine XS.iloadN X3.here hexec rfl (hb hbytes d5) rfl ?_
    refine XS.aloadN X3.here hexec rfl (hb hbytes d6) rfl rfl ?_
    refine iconstV X3.here hexec rfl 0 (hb hbytes d7) (by decide) ?_
    refine XS.iloadN X3.here hexec rfl (hb hbytes d8) rfl ?_
    exact Steps.refl _)
  obtain ⟨v6, T6, X6, E6, g6⟩ := X3.callS hexec (Cmp5.law l b A s.heap.size B3 o 0 len) hown (wks W (staticW U16 115 Cmp5.yN)) (wk W Cmp5.tab) (W := 0) (Nat.le_of_ble_eq_true rfl) (Nat.le_of_ble_eq_true rfl) (Nat.le_refl _) (by show 0 + len + 0 ≤ len; omega) (g := (mkF m 9 #[.val (.ref b), .val (.int (Int32.ofNat o)), .val (.int (Int32.ofNat len)), .val (.ref s.heap.size), .unset, .unset] [.int (Int32.ofNat len), .int (Int32.ofNat 0), .ref s.heap.size, .int (Int32.ofNat o), .ref b])) rfl (by rw [hml]; rfl) c5 (argsL := [.ref b, .int (Int32.ofNat o), .ref s.heap.size, .int (Int32.ofNat 0), .int (Int32.ofNat len)]) (rest := []) rfl rfl (by show 2 * 0 + 0 ≤ _; decide) (hb hbytes d9) (⟨rfl, hA3, ba3, hne, l1, by rw [bs3]; simp, hp⟩)
  obtain ⟨rfl, B6, p6, f6⟩ := E6
  have c7 : Steps p.tables e below (s₁.setTop (entryFrame m #[.ref b, .int (Int32.ofNat o), .int (Int32.ofNat len)] 6)) (T6.setTop (mkF m 12 #[.val (.ref b), .val (.int (Int32.ofNat o)), .val (.int (Int32.ofNat len)), .val (.ref s.heap.size), .unset, .unset] [.int (Int32.ofNat len)])) := g6
  have c8 : Steps p.tables e below (s₁.setTop (entryFrame m #[.ref b, .int (Int32.ofNat o), .int (Int32.ofNat len)] 6)) (T6.setTop (mkF m 58 #[.val (.ref b), .val (.int (Int32.ofNat o)), .val (.int (Int32.ofNat len)), .val (.ref s.heap.size), .val (.int (Int32.ofNat len)), .unset] [.ref s.heap.size])) := c7.trans (by
    refine XS.istore X6.here hexec rfl (hb hbytes d12) rfl rfl ?_
    refine XS.iload X6.here hexec rfl (hb hbytes d14) rfl ?_
    refine XS.iloadN X6.here hexec rfl (hb hbytes d16) rfl ?_
    refine XS.icmpYes X6.here hexec rfl (pc0 := 17) rfl (hb hbytes d17) rfl (ii_eq_t rfl) (by decide) rfl ?_
    refine XS.aloadN X6.here hexec rfl (hb hbytes d57) rfl rfl ?_
    exact Steps.refl _)
  have X8 := X6.wide (L' := []) (cells' := 1) (slots' := len) (fun x hx hlt => by
    simp only [List.nil_append, copyLocs, List.mem_map, List.mem_range] at hx
    obtain ⟨i, -, rfl⟩ := hx
    exact absurd hlt (Nat.lt_irrefl _)) (Nat.le_refl _) (by omega)
  exact ⟨T6, some (.ref s.heap.size), _, _, _, X8, rfl, rfl, rfl, (fun h => by cases h), ⟨⟨rfl, B6, ba3.like (X3.warmed.alike.symm.trans X6.warmed.alike) p6.1 f6.1 f6.2.1 f6.2.2.1, f6.2.1.trans bv3, by rw [X6.warmed.alike.findClass, f6.1]; exact bf3, by rw [f6.2.2.1, bs3]; simp, fun j hj => by rw [f6.2.2.2 j, if_pos (by omega)]; rfl, kp3.put p6 (Nat.le_refl _)⟩, by rw [p6.2.2, bh3, hh0]; simp⟩, fun fs hl => c8.trans (X8.areturnOut hexec rfl hret rfl (hb hbytes d58) hl)⟩
end Cmp3
namespace CodL
def yN : MethodName := ⟨"java/lang/StringUTF16", "coderFromArrayLen", "([BI)B"⟩
abbrev yB : ByteArray := jdk_52_method_15_code
theorem d0 : decode yB 0 = .ok (.iload_n 1, 1) := by decide +kernel
theorem d1 : decode yB 1 = .ok (.aload_n 0, 1) := by decide +kernel
theorem d2 : decode yB 2 = .ok (.arraylength, 1) := by decide +kernel
theorem d3 : decode yB 3 = .ok (.isub, 1) := by decide +kernel
theorem d4 : decode yB 4 = .ok (.bipush 31, 2) := by decide +kernel
theorem d6 : decode yB 6 = .ok (.iushr, 1) := by decide +kernel
theorem d7 : decode yB 7 = .ok (.i2b, 1) := by decide +kernel
theorem d8 : decode yB 8 = .ok (.ireturn, 1) := by decide +kernel
def site : List Cond := []
def tab : Cond := tabOf yN yB 2 (some .byte) site
def P (d : Addr) (B : Cell) (args : Array Value) (s : State) : Prop := args = #[.ref d, .int (Int32.ofNat B.slots.size)] ∧ Arr .byte d B s
def E (r : Option Value) (s u : State) : Prop := XT.PureE (some (.int 0)) r s u
/-- an array as long as the number of chars: LATIN1 -/
theorem law (l : Launch) (d : Addr) (B : Cell) : Law l yN 2 2 0 0 yB 2 (some .byte) site (P d B) E [] 0 0 := by
  refine Law.of_walk (plainFor_of_name (by decide +kernel)) (by decide +kernel) (by decide +kernel) (by decide) (fun _ _ h => by rw [h.1]; rfl) (fun _ U U' hal hh h => ⟨h.1, h.2.mv hal hh⟩) (fun r U U' V V' h1 hal h2 h => XT.PureE.mv r U U' V V' h1 hal h2 h) ?_
  intro p e s m args below meth c s₁ X0 hexec hbytes hml hret hlk hnm hown hh0 W hP
  obtain ⟨rfl, hB⟩ := hP
  have hB0 := hB.mv X0.warmed.alike hh0
  have c1 : Steps p.tables e below (s₁.setTop (entryFrame m #[.ref d, .int (Int32.ofNat B.slots.size)] 2)) (s₁.setTop (mkF m 0 #[.val (.ref d), .val (.int (Int32.ofNat B.slots.size))] [])) := entry rfl
  have c2 : Steps p.tables e below (s₁.setTop (entryFrame m #[.ref d, .int (Int32.ofNat B.slots.size)] 2)) (s₁.setTop (mkF m 2 #[.val (.ref d), .val (.int (Int32.ofNat B.slots.size))] [.ref d, .int (Int32.ofNat B.slots.size)])) := c1.trans (by
    refine XS.iloadN X0.here hexec rfl (hb hbytes d0) rfl ?_
    refine XS.aloadN X0.here hexec rfl (hb hbytes d1) rfl rfl ?_
    exact Steps.refl _)
  have c3 : Steps p.tables e below (s₁.setTop (entryFrame m #[.ref d, .int (Int32.ofNat B.slots.size)] 2)) (s₁.setTop (mkF m 8 #[.val (.ref d), .val (.int (Int32.ofNat B.slots.size))] [.int (lo8 (ushr (Int32.ofNat B.slots.size - Int32.ofNat B.slots.size) 31))])) := c2.trans (by
    refine X0.alen hexec hB0 rfl rfl (hb hbytes d2) ?_
    refine XS.isub X0.here hexec rfl (hb hbytes d3) rfl ?_
    refine bipushV X0.here hexec rfl 31 (hb hbytes d4) (by decide) ?_
    refine iushr X0.here hexec rfl (hb hbytes d6) rfl ?_
    refine i2b X0.here hexec rfl (hb hbytes d7) rfl ?_
    exact Steps.refl _)
  have e0 : lo8 (ushr (Int32.ofNat B.slots.size - Int32.ofNat B.slots.size) 31) = 0 := by rw [Int32.sub_self]; decide
  rw [e0] at c3
  exact ⟨s₁, some (.int 0), _, _, _, X0, rfl, rfl, rfl, (fun h => by cases h), ⟨rfl, hh0⟩, fun fs hl => c3.trans (X0.ireturnOut hexec hret rfl (Or.inr (Or.inr (Or.inl rfl))) (hb hbytes d8) hl)⟩
end CodL
/-- the String at a is Latin-1 over a new byte[] (the heap's one new cell): the low bytes of the len chars of A from o on; every cell but a is kept -/
def Got (a : Addr) (D : Cell) (fV fC : Field) (A : Cell) (o len : Nat) (r : Option Value) (s u : State) : Prop := r = none ∧ ∃ D' V : Cell, Blank "java/lang/String" a D' u ∧ Same D D' [fV.slot, fC.slot] ∧ D'.slots[fV.slot]? = some (.ref s.heap.size) ∧ D'.slots[fC.slot]? = some (.int 0) ∧ Arr .byte s.heap.size V u ∧ V.vm = .none ∧ u.vm.findClass "[B" = some V.cls ∧ V.slots.size = len ∧ (∀ j, j < len → V.slots[j]? = some (.int (lo8 (cv A (o + j))))) ∧ (∀ (y : Addr) (c : Cell), y ≠ a → s.heap[y]? = some c → u.heap[y]? = some c) ∧ u.heap.size = s.heap.size + 1
theorem Got.mv {a : Addr} {D A : Cell} {fV fC : Field} {o len : Nat} : ∀ r (U U' V V' : State), U'.heap = U.heap → V.vm.Alike V'.vm → V'.heap = V.heap → Got a D fV fC A o len r U V → Got a D fV fC A o len r U' V' :=
  fun r U U' V V' h1 hal h2 ⟨e0, D', X, a1, a2, a3, a4, a5, a6, a7, a8, a9, a10, a11⟩ => ⟨e0, D', X, a1.mv hal h2, a2, by rw [h1]; exact a3, a4, by rw [h1]; exact a5.mv hal h2, a6, by rw [hal.findClass]; exact a7, a8, a9, by rw [h1, h2]; exact a10, by rw [h1, h2]; exact a11⟩
namespace New4
def yN : MethodName := ⟨"java/lang/String", "<init>", "([CIILjava/lang/Void;)V"⟩
abbrev yB : ByteArray := jdk_42_method_149_code
theorem d0 : decode yB 0 = .ok (.aload_n 0, 1) := by decide +kernel
theorem d1 : decode yB 1 = .ok (.invokespecial 1, 3) := by decide +kernel
theorem d4 : decode yB 4 = .ok (.iload_n 3, 1) := by decide +kernel
theorem d5 : decode yB 5 = .ok (.ifCond (.ne) 22, 3) := by decide +kernel
theorem d27 : decode yB 27 = .ok (.getstatic 38, 3) := by decide +kernel
theorem d30 : decode yB 30 = .ok (.ifCond (.eq) 28, 3) := by decide +kernel
theorem d33 : decode yB 33 = .ok (.aload_n 1, 1) := by decide +kernel
theorem d34 : decode yB 34 = .ok (.iload_n 2, 1) := by decide +kernel
theorem d35 : decode yB 35 = .ok (.iload_n 3, 1) := by decide +kernel
theorem d36 : decode yB 36 = .ok (.invokestatic 177, 3) := by decide +kernel
theorem d39 : decode yB 39 = .ok (.astore 5, 2) := by decide +kernel
theorem d41 : decode yB 41 = .ok (.aload_n 0, 1) := by decide +kernel
theorem d42 : decode yB 42 = .ok (.aload 5, 2) := by decide +kernel
theorem d44 : decode yB 44 = .ok (.iload_n 3, 1) := by decide +kernel
theorem d45 : decode yB 45 = .ok (.invokestatic 47, 3) := by decide +kernel
theorem d48 : decode yB 48 = .ok (.putfield 15, 3) := by decide +kernel
theorem d51 : decode yB 51 = .ok (.aload_n 0, 1) := by decide +kernel
theorem d52 : decode yB 52 = .ok (.aload 5, 2) := by decide +kernel
theorem d54 : decode yB 54 = .ok (.putfield 9, 3) := by decide +kernel
theorem d57 : decode yB 57 = .ok (.return_, 1) := by decide +kernel
def site : List Cond := [.fieldLink "java/lang/String" 38 "java/lang/String" "COMPACT_STRINGS" "Z", Cmp3.tab, CodL.tab, .laysFinal "java/lang/String" "java/lang/String" "value" "[B", .fieldLink "java/lang/String" 9 "java/lang/String" "value" "[B", .laysFinal "java/lang/String" "java/lang/String" "coder" "B", .fieldLink "java/lang/String" 15 "java/lang/String" "coder" "B"] ++ objW "java/lang/String" 1 ++ staticW "java/lang/String" 177 Cmp3.yN ++ staticW "java/lang/String" 47 CodL.yN
def tab : Cond := tabOf yN yB 6 none site
def P (a : Addr) (D : Cell) (fV fC : Field) (b : Addr) (A : Cell) (z : Int32) (o len : Nat) (args : Array Value) (s : State) : Prop := args = #[.ref a, .ref b, .int (Int32.ofNat o), .int (Int32.ofNat len), .null] ∧ Blank "java/lang/String" a D s ∧ Found "java/lang/String" "value" "[B" fV s ∧ Found "java/lang/String" "coder" "B" fC s ∧ Ch b A s ∧ StaticIs s "java/lang/String" "COMPACT_STRINGS" "Z" (.int z) ∧ ¬ z = 0 ∧ 0 < len ∧ o + len ≤ A.slots.size ∧ len ≤ 536870912 ∧ ∀ i, i < len → ¬ 255 < cv A (o + i)
def E (a : Addr) (D : Cell) (fV fC : Field) (A : Cell) (o len : Nat) (r : Option Value) (s u : State) : Prop := Got a D fV fC A o len r s u
/-- len > 0, no char of the range above 255: a Latin-1 String of their low bytes -/
theorem law (l : Launch) (a : Addr) (D : Cell) (fV fC : Field) (b : Addr) (A : Cell) (z : Int32) (o len : Nat) : Law l yN 5 4 2 35 yB 6 none site (P a D fV fC b A z o len) (E a D fV fC A o len) [⟨a, fC.slot⟩, ⟨a, fV.slot⟩] 1 len := by
  refine Law.of_walk (plainFor_of_name (by decide +kernel)) (by decide +kernel) (by decide +kernel) (by decide) (fun _ _ h => by rw [h.1]; rfl) (fun _ U U' hal hh h => ⟨h.1, h.2.1.mv hal hh, h.2.2.1.al hal, h.2.2.2.1.al hal, h.2.2.2.2.1.mv hal hh, h.2.2.2.2.2.1.there hal hh, h.2.2.2.2.2.2⟩) (fun r U U' V V' h1 hal h2 h => Got.mv r U U' V V' h1 hal h2 h) ?_
  intro p e s m args below meth c s₁ X0 hexec hbytes hml hret hlk hnm hown hh0 W hP
  obtain ⟨rfl, hB, f1, f2, hA, s1, hz, l0, l1, l2, hp⟩ := hP
  have a31 := hA.1.2.2.2
  have c1 : Steps p.tables e below (s₁.setTop (entryFrame m #[.ref a, .ref b, .int (Int32.ofNat o), .int (Int32.ofNat len), .null] 6)) (s₁.setTop (mkF m 0 #[.val (.ref a), .val (.ref b), .val (.int (Int32.ofNat o)), .val (.int (Int32.ofNat len)), .val .null, .unset] [])) := entry rfl
  have c2 : Steps p.tables e below (s₁.setTop (entryFrame m #[.ref a, .ref b, .int (Int32.ofNat o), .int (Int32.ofNat len), .null] 6)) (s₁.setTop (mkF m 1 #[.val (.ref a), .val (.ref b), .val (.int (Int32.ofNat o)), .val (.int (Int32.ofNat len)), .val .null, .unset] [.ref a])) := c1.trans (by
    refine XS.aloadN X0.here hexec rfl (hb hbytes d0) rfl rfl ?_
    exact Steps.refl _)
  obtain ⟨T3, X3, q3, st3⟩ := X0.oinit hexec hown (wks W (objW "java/lang/String" 1)) (g := (mkF m 1 #[.val (.ref a), .val (.ref b), .val (.int (Int32.ofNat o)), .val (.int (Int32.ofNat len)), .val .null, .unset] [.ref a])) rfl (by rw [hml]; rfl) (rest := []) rfl (hb hbytes d1) (W := 0) (by show 2 * 0 + 0 ≤ _; decide) (Nat.le_of_ble_eq_true rfl) (Nat.le_of_ble_eq_true rfl)
  have hh3 := q3.trans hh0
  have c4 : Steps p.tables e below (s₁.setTop (entryFrame m #[.ref a, .ref b, .int (Int32.ofNat o), .int (Int32.ofNat len), .null] 6)) (T3.setTop (mkF m 27 #[.val (.ref a), .val (.ref b), .val (.int (Int32.ofNat o)), .val (.int (Int32.ofNat len)), .val .null, .unset] [])) := (c2.trans (st3 _ (Steps.refl _))).trans (by
    refine XS.iloadN X3.here hexec rfl (hb hbytes d4) rfl ?_
    refine XS.ifYes X3.here hexec rfl (pc0 := 5) rfl (hb hbytes d5) rfl (i0_ne_t (nz32 (by omega) l0)) (by decide) rfl ?_
    exact Steps.refl _)
  obtain ⟨T5, X5, q5, st5⟩ := X3.sget hexec hown (wk W (.fieldLink "java/lang/String" 38 "java/lang/String" "COMPACT_STRINGS" "Z")) s1 (fun _ _ h => by rw [hh3]; exact h) (g := (mkF m 27 #[.val (.ref a), .val (.ref b), .val (.int (Int32.ofNat o)), .val (.int (Int32.ofNat len)), .val .null, .unset] [])) rfl (hb hbytes d27)
  have hh5 := q5.trans hh3
  have c6 : Steps p.tables e below (s₁.setTop (entryFrame m #[.ref a, .ref b, .int (Int32.ofNat o), .int (Int32.ofNat len), .null] 6)) (T5.setTop (mkF m 30 #[.val (.ref a), .val (.ref b), .val (.int (Int32.ofNat o)), .val (.int (Int32.ofNat len)), .val .null, .unset] [.int z])) := c4.trans (st5 _ (Steps.refl _))
  have c7 : Steps p.tables e below (s₁.setTop (entryFrame m #[.ref a, .ref b, .int (Int32.ofNat o), .int (Int32.ofNat len), .null] 6)) (T5.setTop (mkF m 36 #[.val (.ref a), .val (.ref b), .val (.int (Int32.ofNat o)), .val (.int (Int32.ofNat len)), .val .null, .unset] [.int (Int32.ofNat len), .int (Int32.ofNat o), .ref b])) := c6.trans (by
    refine XS.ifNo X5.here hexec rfl (hb hbytes d30) rfl (i0_eq_f hz) ?_
    refine XS.aloadN X5.here hexec rfl (hb hbytes d33) rfl rfl ?_
    refine XS.iloadN X5.here hexec rfl (hb hbytes d34) rfl ?_
    refine XS.iloadN X5.here hexec rfl (hb hbytes d35) rfl ?_
    exact Steps.refl _)
  obtain ⟨v8, T8, X8, E8, g8⟩ := X5.callS hexec (Cmp3.law l b A o len) hown (wks W (staticW "java/lang/String" 177 Cmp3.yN)) (wk W Cmp3.tab) (W := 0) (Nat.le_of_ble_eq_true rfl) (Nat.le_of_ble_eq_true rfl) (Nat.le_refl _) (by show 0 + len ≤ len; omega) (g := (mkF m 36 #[.val (.ref a), .val (.ref b), .val (.int (Int32.ofNat o)), .val (.int (Int32.ofNat len)), .val .null, .unset] [.int (Int32.ofNat len), .int (Int32.ofNat o), .ref b])) rfl (by rw [hml]; rfl) c7 (argsL := [.ref b, .int (Int32.ofNat o), .int (Int32.ofNat len)]) (rest := []) rfl rfl (by show 2 * 0 + 0 ≤ _; decide) (hb hbytes d36) (⟨rfl, hA.mv X5.warmed.alike hh5, l1, l2, hp⟩)
  obtain ⟨e8, z8⟩ := E8
  obtain ⟨rfl, N, n1, n2, n3, n4, n5, n6⟩ := NewArr.mv _ T5 s _ _ hh5.symm (Vm.Alike.refl _) rfl e8
  rw [hh5] at z8
  have hB1 := hB.keep X8.warmed.alike (n6 _ _ hB.1)
  have hne : s.heap.size ≠ a := (Nat.ne_of_lt (Array.getElem?_eq_some_iff.mp hB.1).1).symm
  have c9 : Steps p.tables e below (s₁.setTop (entryFrame m #[.ref a, .ref b, .int (Int32.ofNat o), .int (Int32.ofNat len), .null] 6)) (T8.setTop (mkF m 39 #[.val (.ref a), .val (.ref b), .val (.int (Int32.ofNat o)), .val (.int (Int32.ofNat len)), .val .null, .unset] [.ref s.heap.size])) := g8
  have c10 : Steps p.tables e below (s₁.setTop (entryFrame m #[.ref a, .ref b, .int (Int32.ofNat o), .int (Int32.ofNat len), .null] 6)) (T8.setTop (mkF m 45 #[.val (.ref a), .val (.ref b), .val (.int (Int32.ofNat o)), .val (.int (Int32.ofNat len)), .val .null, .val (.ref s.heap.size)] [.int (Int32.ofNat N.slots.size), .ref s.heap.size, .ref a])) := by
    have hc : Steps p.tables e below (s₁.setTop (entryFrame m #[.ref a, .ref b, .int (Int32.ofNat o), .int (Int32.ofNat len), .null] 6)) (T8.setTop (mkF m 45 #[.val (.ref a), .val (.ref b), .val (.int (Int32.ofNat o)), .val (.int (Int32.ofNat len)), .val .null, .val (.ref s.heap.size)] [.int (Int32.ofNat len), .ref s.heap.size, .ref a])) := c9.trans (by
      refine XS.astore X8.here hexec rfl (hb hbytes d39) rfl rfl rfl ?_
      refine XS.aloadN X8.here hexec rfl (hb hbytes d41) rfl rfl ?_
      refine XS.aload X8.here hexec rfl (hb hbytes d42) rfl rfl ?_
      refine XS.iloadN X8.here hexec rfl (hb hbytes d44) rfl ?_
      exact Steps.refl _)
    rw [n4]; exact hc
  obtain ⟨v11, T11, X11, E11, g11⟩ := X8.callS hexec (CodL.law l s.heap.size N) hown (wks W (staticW "java/lang/String" 47 CodL.yN)) (wk W CodL.tab) (W := 1) (Nat.le_of_ble_eq_true rfl) (Nat.le_of_ble_eq_true rfl) (Nat.le_refl _) (by show 0 + len + 0 ≤ len; omega) (g := (mkF m 45 #[.val (.ref a), .val (.ref b), .val (.int (Int32.ofNat o)), .val (.int (Int32.ofNat len)), .val .null, .val (.ref s.heap.size)] [.int (Int32.ofNat N.slots.size), .ref s.heap.size, .ref a])) rfl (by rw [hml]; rfl) c10 (argsL := [.ref s.heap.size, .int (Int32.ofNat N.slots.size)]) (rest := [.ref a]) rfl rfl (by show 2 * 0 + (1 + 0) ≤ _; decide) (hb hbytes d45) (⟨rfl, n1⟩)
  obtain ⟨rfl, q11⟩ := E11
  have hB11 := hB1.mv (X8.warmed.alike.symm.trans X11.warmed.alike) q11
  have c12 : Steps p.tables e below (s₁.setTop (entryFrame m #[.ref a, .ref b, .int (Int32.ofNat o), .int (Int32.ofNat len), .null] 6)) (T11.setTop (mkF m 48 #[.val (.ref a), .val (.ref b), .val (.int (Int32.ofNat o)), .val (.int (Int32.ofNat len)), .val .null, .val (.ref s.heap.size)] [.int 0, .ref a])) := g11
  obtain ⟨T13, X13, p13, bl13, sl13, st13⟩ := X11.finit hexec hown (wk W (.fieldLink "java/lang/String" 15 "java/lang/String" "coder" "B")) (Or.inr ⟨_, (wk W (.laysFinal "java/lang/String" "java/lang/String" "coder" "B"))⟩) (Or.inl ⟨rfl, hnm⟩) f2 (Or.inl rfl) hB11 (t := .byte) (by decide +kernel) rfl (g := (mkF m 48 #[.val (.ref a), .val (.ref b), .val (.int (Int32.ofNat o)), .val (.int (Int32.ofNat len)), .val .null, .val (.ref s.heap.size)] [.int 0, .ref a])) rfl (rest := []) rfl (hb hbytes d48)
  have c14 : Steps p.tables e below (s₁.setTop (entryFrame m #[.ref a, .ref b, .int (Int32.ofNat o), .int (Int32.ofNat len), .null] 6)) (T13.setTop (mkF m 54 #[.val (.ref a), .val (.ref b), .val (.int (Int32.ofNat o)), .val (.int (Int32.ofNat len)), .val .null, .val (.ref s.heap.size)] [.ref s.heap.size, .ref a])) := (c12.trans (st13 _ (Steps.refl _))).trans (by
    refine XS.aloadN X13.here hexec rfl (hb hbytes d51) rfl rfl ?_
    refine XS.aload X13.here hexec rfl (hb hbytes d52) rfl rfl ?_
    exact Steps.refl _)
  obtain ⟨T15, X15, p15, bl15, sl15, st15⟩ := X13.finit hexec hown (wk W (.fieldLink "java/lang/String" 9 "java/lang/String" "value" "[B")) (Or.inr ⟨_, (wk W (.laysFinal "java/lang/String" "java/lang/String" "value" "[B"))⟩) (Or.inl ⟨rfl, hnm⟩) f1 (Or.inl rfl) bl13 (t := (.array .byte)) (by decide +kernel) rfl (g := (mkF m 54 #[.val (.ref a), .val (.ref b), .val (.int (Int32.ofNat o)), .val (.int (Int32.ofNat len)), .val .null, .val (.ref s.heap.size)] [.ref s.heap.size, .ref a])) rfl (rest := []) rfl (hb hbytes d54)
  have c16 : Steps p.tables e below (s₁.setTop (entryFrame m #[.ref a, .ref b, .int (Int32.ofNat o), .int (Int32.ofNat len), .null] 6)) (T15.setTop (mkF m 57 #[.val (.ref a), .val (.ref b), .val (.int (Int32.ofNat o)), .val (.int (Int32.ofNat len)), .val .null, .val (.ref s.heap.size)] [])) := c14.trans (st15 _ (Steps.refl _))
  have ap := apart (Or.inr ⟨_, (wk W (.laysFinal "java/lang/String" "java/lang/String" "value" "[B"))⟩) (Or.inr ⟨_, (wk W (.laysFinal "java/lang/String" "java/lang/String" "coder" "B"))⟩) f1 f2 (t₁ := .array .byte) (t₂ := .byte) (by decide +kernel) (by decide +kernel) (by decide)
  have al := X8.warmed.alike.symm.trans X15.warmed.alike
  have n7 : T11.heap[s.heap.size]? = some N := by rw [q11]; exact n1.1
  exact ⟨T15, none, _, _, _, X15, by simp, rfl, by omega, (fun _ => rfl), ⟨rfl, _, N, bl15, ((Same.refl D _).set _ (by simp)).set _ (by simp), sl15, (Cell.slots_setSlot_ne _ ap).trans sl13, n1.keep al (p15.other hne (p13.other hne n7)), n2, by rw [al.findClass]; exact n3, n4, n5, fun y c h1 h2 => p15.other h1 (p13.other h1 (by rw [q11]; exact n6 y c h2)), by rw [p15.2.2, p13.2.2, q11]; exact z8⟩, fun fs hl => c16.trans (X15.returnOut hexec hret (hb hbytes d57) hl)⟩
end New4
namespace New1
def yN : MethodName := ⟨"java/lang/String", "<init>", "([C)V"⟩
abbrev yB : ByteArray := jdk_42_method_3_code
theorem d0 : decode yB 0 = .ok (.aload_n 0, 1) := by decide +kernel
theorem d1 : decode yB 1 = .ok (.aload_n 1, 1) := by decide +kernel
theorem d2 : decode yB 2 = .ok (.iconst 0, 1) := by decide +kernel
theorem d3 : decode yB 3 = .ok (.aload_n 1, 1) := by decide +kernel
theorem d4 : decode yB 4 = .ok (.arraylength, 1) := by decide +kernel
theorem d5 : decode yB 5 = .ok (.aconst_null, 1) := by decide +kernel
theorem d6 : decode yB 6 = .ok (.invokespecial 27, 3) := by decide +kernel
theorem d9 : decode yB 9 = .ok (.return_, 1) := by decide +kernel
def site : List Cond := [New4.tab] ++ initW "java/lang/String" 27 New4.yN
def tab : Cond := tabOf yN yB 2 none site
def P (a : Addr) (D : Cell) (fV fC : Field) (b : Addr) (A : Cell) (z : Int32) (args : Array Value) (s : State) : Prop := args = #[.ref a, .ref b] ∧ Blank "java/lang/String" a D s ∧ Found "java/lang/String" "value" "[B" fV s ∧ Found "java/lang/String" "coder" "B" fC s ∧ Ch b A s ∧ StaticIs s "java/lang/String" "COMPACT_STRINGS" "Z" (.int z) ∧ ¬ z = 0 ∧ 0 < A.slots.size ∧ A.slots.size ≤ 536870912 ∧ ∀ i, i < A.slots.size → ¬ 255 < cv A i
def E (a : Addr) (D : Cell) (fV fC : Field) (A : Cell) (r : Option Value) (s u : State) : Prop := Got a D fV fC A 0 A.slots.size r s u
/-- new String(chars), not empty, no char above 255: a Latin-1 String of their low bytes -/
theorem law (l : Launch) (a : Addr) (D : Cell) (fV fC : Field) (b : Addr) (A : Cell) (z : Int32) : Law l yN 2 1 3 52 yB 2 none site (P a D fV fC b A z) (E a D fV fC A) [⟨a, fC.slot⟩, ⟨a, fV.slot⟩] 1 A.slots.size := by
  refine Law.of_walk (plainFor_of_name (by decide +kernel)) (by decide +kernel) (by decide +kernel) (by decide) (fun _ _ h => by rw [h.1]; rfl) (fun _ U U' hal hh h => ⟨h.1, h.2.1.mv hal hh, h.2.2.1.al hal, h.2.2.2.1.al hal, h.2.2.2.2.1.mv hal hh, h.2.2.2.2.2.1.there hal hh, h.2.2.2.2.2.2⟩) (fun r U U' V V' h1 hal h2 h => Got.mv r U U' V V' h1 hal h2 h) ?_
  intro p e s m args below meth c s₁ X0 hexec hbytes hml hret hlk hnm hown hh0 W hP
  obtain ⟨rfl, hB, f1, f2, hA, s1, hz, l0, l2, hp⟩ := hP
  have c1 : Steps p.tables e below (s₁.setTop (entryFrame m #[.ref a, .ref b] 2)) (s₁.setTop (mkF m 0 #[.val (.ref a), .val (.ref b)] [])) := entry rfl
  have c2 : Steps p.tables e below (s₁.setTop (entryFrame m #[.ref a, .ref b] 2)) (s₁.setTop (mkF m 6 #[.val (.ref a), .val (.ref b)] [.null, .int (Int32.ofNat A.slots.size), .int 0, .ref b, .ref a])) := c1.trans (by
    refine XS.aloadN X0.here hexec rfl (hb hbytes d0) rfl rfl ?_
    refine XS.aloadN X0.here hexec rfl (hb hbytes d1) rfl rfl ?_
    refine iconstV X0.here hexec rfl 0 (hb hbytes d2) (by decide) ?_
    refine XS.aloadN X0.here hexec rfl (hb hbytes d3) rfl rfl ?_
    refine X0.alen hexec (hA.1.mv X0.warmed.alike hh0) rfl rfl (hb hbytes d4) ?_
    refine XS.aconstNull X0.here hexec rfl (hb hbytes d5) ?_
    exact Steps.refl _)
  obtain ⟨v3, T3, X3, E3, g3⟩ := X0.callN hexec (New4.law l a D fV fC b A z 0 A.slots.size) rfl hown (wks W (initW "java/lang/String" 27 New4.yN)) (W New4.tab (by simp only [site, List.mem_cons, List.mem_append, true_or, or_true])) (W := 0) (Nat.le_of_ble_eq_true rfl) (Nat.le_of_ble_eq_true rfl) (Nat.le_refl _) (by show 0 + A.slots.size ≤ A.slots.size; omega) (g := (mkF m 6 #[.val (.ref a), .val (.ref b)] [.null, .int (Int32.ofNat A.slots.size), .int (Int32.ofNat 0), .ref b, .ref a])) rfl (by rw [hml]; rfl) c2 (argsL := [.ref b, .int (Int32.ofNat 0), .int (Int32.ofNat A.slots.size), .null]) (rest := []) rfl rfl (by show 2 * 0 + 0 ≤ _; decide) (hb hbytes d6) (⟨rfl, hB.mv X0.warmed.alike hh0, f1.al X0.warmed.alike, f2.al X0.warmed.alike, hA.mv X0.warmed.alike hh0, s1.there X0.warmed.alike hh0, hz, l0, by omega, l2, fun i hi => by rw [Nat.zero_add]; exact hp i hi⟩)
  have e0 := Got.mv _ s₁ s _ _ hh0.symm (Vm.Alike.refl _) rfl E3
  obtain rfl := e0.1
  have c4 : Steps p.tables e below (s₁.setTop (entryFrame m #[.ref a, .ref b] 2)) (T3.setTop (mkF m 9 #[.val (.ref a), .val (.ref b)] [])) := g3
  exact ⟨T3, none, _, _, _, X3, by simp, rfl, by omega, (fun _ => rfl), e0, fun fs hl => c4.trans (X3.returnOut hexec hret (hb hbytes d9) hl)⟩
theorem pays {l : Launch} {R : Room} {p : Program} {e : Env} {below : List Frame} {s : State} {sargs : Array Value} {len W : Nat} (a : Addr) (D : Cell) (fV fC : Field) (b : Addr) (A : Cell) (z : Int32) (htab : tab.before sargs s = true) (hfr : 4 ≤ R.frames) (hlo : W + 65 ≤ R.locals) :
    Back l R p e below s sargs yN len W (fun A₁ a₁ => A₁.cells + 1 ≤ R.cells ∧ A₁.slots + A.slots.size ≤ R.slots ∧ P a D fV fC b A z a₁ A₁.U) (fun A₁ _ v₁ B₁ => E a D fV fC A v₁ A₁.U B₁.U ∧ B₁.locs = A₁.locs ++ [⟨a, fC.slot⟩, ⟨a, fV.slot⟩] ∧ B₁.cells = A₁.cells + 1 ∧ B₁.slots = A₁.slots + A.slots.size) :=
  (law l a D fV fC b A z).pays htab hfr (by omega)
end New1
end StrChars
namespace StrChars.Road
open Jvm Sem ClassFile Op Lib Jvm.Stand Jvm.Free Jvm.Free.XT
open Jvm.Lib.Cold (StaticIs)
abbrev ST : String := "java/lang/String"
/-- every table word that New1's law asks, flat -/
abbrev words : List Jvm.Cond := [.code New1.yN New1.yB 2 none, .initialized ST, .methodLink ST 27 New4.yN, .instanceMethod New4.yN,
  .code New4.yN New4.yB 6 none, .fieldLink ST 38 ST "COMPACT_STRINGS" "Z", .laysFinal ST ST "value" "[B", .fieldLink ST 9 ST "value" "[B", .laysFinal ST ST "coder" "B", .fieldLink ST 15 ST "coder" "B",
  .methodLink ST 1 Lib.objectInit, .instanceMethod Lib.objectInit, .code Lib.objectInit ⟨#[0xb1]⟩ 1 none, .methodLink ST 177 Cmp3.yN, .static Cmp3.yN, .methodLink ST 47 CodL.yN, .static CodL.yN,
  .code Cmp3.yN Cmp3.yB 6 (some (.array .byte)), .initialized U16, .arrayClass .byte, .methodLink U16 115 Cmp5.yN, .static Cmp5.yN, .code Cmp5.yN Cmp5.yB 7 (some .int), .code CodL.yN CodL.yB 2 (some .byte)]
theorem tab_of {a : Array Value} {s : State} (h : ∀ w ∈ words, w.before a s = true) : New1.tab.before a s = true := by
  have h5 : Cmp5.tab.before a s = true := unparts (wk h (.code Cmp5.yN Cmp5.yB 7 (some .int))) (wks h (.initialized Cmp5.yN.cls :: Cmp5.site))
  have hc : CodL.tab.before a s = true := unparts (wk h (.code CodL.yN CodL.yB 2 (some .byte))) (wks h (.initialized CodL.yN.cls :: CodL.site))
  have q5 : ∀ w ∈ Cmp5.tab :: words, w.before a s = true := fun w hw => (List.mem_cons.mp hw).elim (fun e => e ▸ h5) (h w)
  have h3 : Cmp3.tab.before a s = true := unparts (wk q5 (.code Cmp3.yN Cmp3.yB 6 (some (.array .byte)))) (wks q5 (.initialized Cmp3.yN.cls :: Cmp3.site))
  have q3 : ∀ w ∈ Cmp3.tab :: CodL.tab :: words, w.before a s = true := fun w hw => (List.mem_cons.mp hw).elim (fun e => e ▸ h3) fun hw => (List.mem_cons.mp hw).elim (fun e => e ▸ hc) (h w)
  have h4 : New4.tab.before a s = true := unparts (wk q3 (.code New4.yN New4.yB 6 none)) (wks q3 (.initialized New4.yN.cls :: New4.site))
  have q4 : ∀ w ∈ New4.tab :: words, w.before a s = true := fun w hw => (List.mem_cons.mp hw).elim (fun e => e ▸ h4) (h w)
  exact unparts (wk q4 (.code New1.yN New1.yB 2 none)) (wks q4 (.initialized New1.yN.cls :: New1.site))
/-- the words ride from the start Z to the walk's own state -/
theorem moved {Z s : State} {a0 args : Array Value} (hZ : Z.Warmed39 s.vm) (hw : ∀ d ∈ words, d.before a0 Z = true) : ∀ d ∈ words, d.before args s = true := fun d hd => by
  have q := hw d hd
  have t : ∀ d ∈ words, d = .arrayClass .byte ∨ (d.onTables && d.keepsFace) = true := by decide +kernel
  rcases t d hd with rfl | t
  · exact RoadKit.mvA hZ q
  · exact RoadKit.mv hZ q t
/-- WHAT COMES BACK, over the tables of the start Z: h the heap at the call, h' behind it -/
def Q (Z : State) (x : Addr) (A : Cell) (h : Heap) (v : Option Value) (h' : Heap) (L : List Loc) : Prop := v = none ∧ (∀ y ∈ L, y.base = x) ∧ RoadKit.Keep h h' [x] ∧ h'.size = h.size + 1 ∧ RoadKit.Exa Z h' x ST ∧ RoadKit.Fld Z h' x ST "value" "[B" (.ref h.size) ∧ RoadKit.Fld Z h' x ST "coder" "B" (.int 0) ∧
  (∃ V : Cell, RoadKit.Arr Z h' h.size V .byte ∧ V.vm = .none ∧ Z.vm.findClass "[B" = some V.cls ∧ V.slots.size = A.slots.size ∧ ∀ j, j < A.slots.size → V.slots[j]? = some (.int (lo8 (cv A j)))) ∧
  ∀ (O n d : String) (w : Value), RoadKit.Fld Z h x O n d w → RoadKit.slotOf Z O n d ≠ RoadKit.slotOf Z ST "value" "[B" → RoadKit.slotOf Z O n d ≠ RoadKit.slotOf Z ST "coder" "B" → RoadKit.Fld Z h' x O n d w
/-- **new String(chars) AT A CALL, IN THE ROAD'S FORM**: for specialBack behind newO: x the fresh String, b the char[] with the cell A -/
theorem back {p : Program} {l : Launch} {e : Env} {R : Room} {s : State} {args : Array Value} {below : List Frame} {len W : Nat} {Z : State} {a0 : Array Value} {h : Heap} (hZ : Z.Warmed39 s.vm) (hw : ∀ d ∈ words, d.before a0 Z = true) {kI : Nat} (wi : (Jvm.Cond.instantiable ST kI).before a0 Z = true)
    {x b : Addr} {A : Cell} {z : Int32} {v0 c0 : Value} (E : RoadKit.Exa Z h x ST) (V : RoadKit.Fld Z h x ST "value" "[B" v0) (C : RoadKit.Fld Z h x ST "coder" "B" c0) (K : RoadKit.Arr Z h b A .char) (hty : Typed .char A) (S : RoadKit.Sta Z h ST "COMPACT_STRINGS" "Z" (.int z)) (hz : ¬ z = 0)
    (l0 : 0 < A.slots.size) (l2 : A.slots.size ≤ 536870912) (hp : ∀ i, i < A.slots.size → ¬ 255 < cv A i) (hfr : 4 ≤ R.frames) (hlo : W + 65 ≤ R.locals) :
    Back l R p e below s args New1.yN len W (fun P a => a = #[.ref x, .ref b] ∧ P.U.heap = h ∧ P.cells + 1 ≤ R.cells ∧ P.slots + A.slots.size ≤ R.slots)
      (fun P _ v B => ∃ L, Q Z x A h v B.U.heap L ∧ B.locs = P.locs ++ L ∧ B.cells = P.cells + 1 ∧ B.slots = P.slots + A.slots.size) := by
  intro m meth c P g ig mk a X hg hsize hdg hW hn hp'
  obtain ⟨rfl, rfl, r1, r2⟩ := hp'
  have al : Z.vm.Alike P.U.vm := hZ.alike.trans X.warmed.alike
  obtain ⟨D, cfV, kV, iV, fV, hD, gV, stV, knV, obV, asV, slV⟩ := id V
  obtain ⟨D', cfC, kC, iC, fC, hD', gC, stC, -, -, asC, slC⟩ := id C
  cases hD.symm.trans hD'
  obtain ⟨D2, kD, e1, e2, e3, e4, e5⟩ := id E
  cases hD.symm.trans e1
  obtain ⟨c2, k2, i1, i2, i3, -⟩ := Cond.instantiable_spec wi
  cases e2.symm.trans i1
  cases e3.symm.trans i2
  obtain ⟨kU, u1, u2⟩ := al.2.2 _ _ e3
  have hB : Blank ST x D P.U := ⟨hD, ⟨knV, fun q hq => by rw [hq] at obV; cases obV⟩, by rw [al.findClass]; exact e2, kU, u1, by rw [u2]; exact i3, by rw [u2]; exact e5 i3⟩
  have F1 : Found ST "value" "[B" fV P.U := ⟨SBG.found_only al ⟨cfV, kV, iV, gV⟩, stV⟩
  have F2 : Found ST "coder" "B" fC P.U := ⟨SBG.found_only al ⟨cfC, kC, iC, gC⟩, stC⟩
  have hA : Ch b A P.U := ⟨⟨K.1, State.isArrayOf_alike al K.2.1, K.2.2, by omega⟩, hty⟩
  have hS : StaticIs P.U ST "COMPACT_STRINGS" "Z" (.int z) := by
    obtain ⟨cfS, iS, kS, fS, st, cS, t1, t2, t3, t4, t5, t6, t7⟩ := S
    exact StaticIs.there (s := { Z with heap := P.U.heap }) ⟨cfS, iS, kS, fS, st, cS, t1, t2, t3, t4, t5, (fun q => by rw [q] at t6; cases t6), t7⟩ al rfl
  obtain ⟨v, B, X', ⟨⟨hv, E', V', q1, q2, q3, q4, q5, q6, q7, q8, q9, q10, q11⟩, hl, hc, hs⟩, st⟩ := New1.pays x D fV fC b A z (tab_of (moved hZ hw)) hfr hlo m meth c P g ig mk _ X hg hsize hdg hW hn ⟨r1, r2, rfl, hB, F1, F2, hA, hS, hz, l0, l2, hp⟩
  have al' : Z.vm.Alike B.U.vm := hZ.alike.trans X'.warmed.alike
  have hsz : E'.slots.size = D.slots.size := by
    obtain ⟨-, -, -, kB, w1, w2, w3⟩ := q1
    obtain ⟨kB', y1, y2⟩ := al'.2.2 _ _ e3
    rw [q2.2.1] at w1
    cases w1.symm.trans y1
    rw [w3, e5 i3, y2]
  refine ⟨v, B, X', ⟨_, ⟨hv, ?_, ⟨by omega, fun y cy hy hn' => q10 y cy (by simpa using hn') hy, fun y cy hy => ?_⟩, q11, ⟨E', _, q1.1, by rw [q2.2.1]; exact e2, by rw [q2.2.1]; exact e3, by rw [q2.1]; exact obV, fun _ => by rw [hsz]; exact e5 i3⟩,
    ⟨E', cfV, kV, iV, fV, q1.1, gV, stV, by rw [q2.1]; exact knV, by rw [q2.1]; exact obV, by rw [q2.2.1]; exact asV, q3⟩, ⟨E', cfC, kC, iC, fC, q1.1, gC, stC, by rw [q2.1]; exact knV, by rw [q2.1]; exact obV, by rw [q2.2.1]; exact asC, q4⟩,
    ⟨V', ⟨q5.1, State.isArrayOf_alike al'.symm q5.2.1, q5.2.2.1⟩, q6, by rw [← al'.findClass]; exact q7, q8, fun j hj => by have := q9 j hj; rwa [Nat.zero_add] at this⟩, fun O n d w F n1 n2 => ?_⟩, hl, hc, hs⟩, st⟩
  · intro y hy
    simp only [List.mem_cons, List.not_mem_nil, or_false] at hy
    rcases hy with rfl | rfl <;> rfl
  · by_cases q : y = x
    · subst q
      cases hD.symm.trans hy
      exact ⟨E', q1.1, q2.2.1, q2.1, hsz⟩
    · exact ⟨cy, q10 y cy q hy, rfl, rfl, rfl⟩
  · obtain ⟨D3, cf, k, i, f, g1, g2, g3, g4, g5, g6, g7⟩ := F
    cases hD.symm.trans g1
    simp only [RoadKit.slotOf, g2, gV, gC, Option.map_some, Option.getD_some] at n1 n2
    exact ⟨E', cf, k, i, f, q1.1, g2, g3, by rw [q2.1]; exact g4, by rw [q2.1]; exact g5, by rw [q2.2.1]; exact g6, by rw [q2.2.2 f.slot (by simp [n1, n2])]; exact g7⟩
end StrChars.Road
namespace StrChars.Road
open Jvm Sem ClassFile Op Lib Jvm.Stand Jvm.Free Jvm.Free.XT
/-- WHAT COMES BACK, the byte[] as a list of values -/
def QA (Z : State) (x : Addr) (zn : Int32) (cs : List Int32) (h : Heap) (v : Option Value) (h' : Heap) (L : List Loc) : Prop := v = none ∧ (∀ y ∈ L, y.base = x) ∧ RoadKit.Keep h h' [x] ∧ h'.size = h.size + 1 ∧ RoadKit.Exa Z h' x ST ∧ RoadKit.Fld Z h' x ST "value" "[B" (.ref h.size) ∧ RoadKit.Fld Z h' x ST "coder" "B" (.int 0) ∧
  (∃ kb, Z.vm.findClass "[B" = some kb ∧ RoadKit.Arv Z h' h.size kb .byte zn (cs.map fun c => .int (lo8 c)) (.int 0)) ∧
  ∀ (O n d : String) (w : Value), RoadKit.Fld Z h x O n d w → RoadKit.slotOf Z O n d ≠ RoadKit.slotOf Z ST "value" "[B" → RoadKit.slotOf Z O n d ≠ RoadKit.slotOf Z ST "coder" "B" → RoadKit.Fld Z h' x O n d w
/-- **new String(chars) AT A CALL, THE ARRAYS AS LISTS**: the char[] at b holds cs, not empty, no char above 255 -/
theorem backArv {p : Program} {l : Launch} {e : Env} {R : Room} {s : State} {args : Array Value} {below : List Frame} {len W : Nat} {Z : State} {a0 : Array Value} {h : Heap} (hZ : Z.Warmed39 s.vm) (hw : ∀ d ∈ words, d.before a0 Z = true) {kI : Nat} (wi : (Jvm.Cond.instantiable ST kI).before a0 Z = true)
    {x b : Addr} {k : ClassId} {zn z : Int32} {cs : List Int32} {dv v0 c0 : Value} (E : RoadKit.Exa Z h x ST) (V : RoadKit.Fld Z h x ST "value" "[B" v0) (C : RoadKit.Fld Z h x ST "coder" "B" c0) (K : RoadKit.Arv Z h b k .char zn (cs.map Value.int) dv) (S : RoadKit.Sta Z h ST "COMPACT_STRINGS" "Z" (.int z)) (hz : ¬ z = 0)
    (hlen : zn.toNatClampNeg = cs.length) (h0 : 0 < cs.length) (hbig : cs.length ≤ 536870912) (hall : ∀ c ∈ cs, ¬ 255 < c) (hfr : 4 ≤ R.frames) (hlo : W + 65 ≤ R.locals) :
    Back l R p e below s args New1.yN len W (fun P a => a = #[.ref x, .ref b] ∧ P.U.heap = h ∧ P.cells + 1 ≤ R.cells ∧ P.slots + cs.length ≤ R.slots)
      (fun P _ v B => ∃ L, QA Z x zn cs h v B.U.heap L ∧ B.locs = P.locs ++ L ∧ B.cells = P.cells + 1 ∧ B.slots = P.slots + cs.length) := by
  obtain ⟨A, K1, K2, K3, K4, K5, K6⟩ := K
  have e : A.slots.size = cs.length := K3.trans hlen
  have hat : ∀ (i : Nat) (hi : i < cs.length), A.slots[i]? = some (.int cs[i]) := fun i hi => by rw [K5 i (by omega)]; simp [List.getD_eq_getElem?_getD, hi]
  have hcv : ∀ (i : Nat) (hi : i < cs.length), cv A i = cs[i] := fun i hi => by unfold cv; rw [hat i hi]
  have hty : Typed .char A := fun i v hv => by
    have hi : i < A.slots.size := (Array.getElem?_eq_some_iff.mp hv).1
    have q := K5 i hi
    rw [hv] at q
    rw [Option.some.inj q]
    exact K6 i hi
  refine Back.mono (back hZ hw wi E V C K1 hty S hz (by omega) (by omega) (fun i hi => by rw [hcv i (by omega)]; exact hall _ (List.getElem_mem _)) hfr hlo) (fun P a hp => ⟨hp.1, hp.2.1, hp.2.2.1, by rw [e]; exact hp.2.2.2⟩) (fun P a v B hp hq => ?_)
  obtain ⟨L, ⟨q1, q2, q3, q4, q5, q6, q7, ⟨V', v1, v2, v3, v4, v5⟩, q9⟩, hl, hc, hs⟩ := hq
  refine ⟨L, ⟨q1, q2, q3, q4, q5, q6, q7, ⟨V'.cls, v3, V', v1, rfl, by rw [v4, e, hlen], K4, fun i hi => ?_, fun i hi => ?_⟩, q9⟩, hl, hc, by rw [hs, e]⟩
  · have hi' : i < cs.length := by omega
    rw [v5 i (by omega), hcv i hi']; simp [List.getD_eq_getElem?_getD, hi']
  · have hi' : i < cs.length := by omega
    simp only [List.getD_eq_getElem?_getD, List.getElem?_map, List.getElem?_eq_getElem hi', Option.map_some, Option.getD_some]
    exact fits_lo8 _
end StrChars.Road
namespace StrChars.Road
open Jvm Sem ClassFile Op Lib Jvm.Stand Jvm.Free Jvm.Free.XT
/-- WHAT COMES BACK, in the writer's own shape -/
def QV (Z : State) (x : Addr) (N : Int32) (bs : List Int32) (h : Heap) (n0 : Nat) (v : Option Value) (h' : Heap) (L : List Loc) : Prop := v = none ∧ RoadKit.Fr n0 L ∧ RoadKit.Keep h h' [x] ∧ RoadKit.Exa Z h' x ST ∧ RoadKit.Fld Z h' x ST "coder" "B" (.int 0) ∧
  ∃ (t : Addr) (kb : ClassId), n0 ≤ t ∧ h.size ≤ t ∧ ¬ t = x ∧ RoadKit.Fld Z h' x ST "value" "[B" (.ref t) ∧ RoadKit.Arv Z h' t kb .byte N (bs.map Value.int) (.int 0)
/-- **new String(chars) AT A CALL, FOR THE WRITER**: a char[] of n known ints, each 0 to 255 -/
theorem backV {p : Program} {l : Launch} {e : Env} {R : Room} {s : State} {args : Array Value} {below : List Frame} {len W : Nat} {Z : State} {a0 : Array Value} {h : Heap} (hZ : Z.Warmed39 s.vm) (hw : ∀ d ∈ words, d.before a0 Z = true) {kI : Nat} (wi : (Jvm.Cond.instantiable ST kI).before a0 Z = true)
    {x b : Addr} {kC : ClassId} {cs bs : List Int32} {d v0 c0 : Value} {z N : Int32} {n n0 : Nat} (hx0 : n0 ≤ x) (hh0 : n0 ≤ h.size) (E : RoadKit.Exa Z h x ST) (V : RoadKit.Fld Z h x ST "value" "[B" v0) (C : RoadKit.Fld Z h x ST "coder" "B" c0) (K : RoadKit.Arv Z h b kC .char N (cs.map Value.int) d) (S : RoadKit.Sta Z h ST "COMPACT_STRINGS" "Z" (.int z)) (hz : ¬ z = 0)
    (hn : cs.length = n) (hN : N = Int32.ofNat n) (l0 : 0 < n) (l2 : n ≤ 4000) (hp : ∀ c ∈ cs, ¬ c < 0 ∧ ¬ (255 : Int32) < c) (hb : bs = cs.map (fun c => c.toInt8.toInt32)) (hfr : 4 ≤ R.frames) (hlo : W + 65 ≤ R.locals) :
    Back l R p e below s args (⟨"java/lang/String", "<init>", "([C)V"⟩ : MethodName) len W (fun P a => a = #[.ref x, .ref b] ∧ P.U.heap = h ∧ P.cells + 1 ≤ R.cells ∧ P.slots + n ≤ R.slots)
      (fun P _ v B => ∃ L, QV Z x N bs h n0 v B.U.heap L ∧ B.locs = P.locs ++ L ∧ B.cells = P.cells + 1 ∧ B.slots = P.slots + n) := by
  subst hn hN hb
  refine Back.mono (backArv hZ hw wi E V C K S hz (n32 (by omega)) l0 (by omega) (fun c hc => (hp c hc).2) hfr hlo) (fun P a hp => hp) (fun P a v B hp hq => ?_)
  obtain ⟨L, ⟨q1, q2, q3, q4, q5, q6, q7, ⟨kb, v1, v2⟩, q9⟩, hl, hc, hs⟩ := hq
  exact ⟨L, ⟨q1, fun y hy => by rw [q2 y hy]; exact hx0, q3, q5, q7, h.size, kb, hh0, Nat.le_refl _, Nat.ne_of_gt E.lt, q6, by rw [List.map_map]; exact v2⟩, hl, hc, hs⟩
end StrChars.Road
end Jvm.Pilot.@@N@@
namespace Jvm.RoadKit
open Sem ClassFile Op Lib Jvm.Stand Jvm.Free Jvm.LawKit
section New
variable {p : Program} {l : Launch} {e : Env} {R : Room} {s : State} {m : MethodId} {args : Array Value} {below : List Frame} {meth : Method} {c : Code} {T : State} {locs : List Loc} {cells slots : Nat}
theorem retI (X : Stand p l e R s m args below meth c T locs cells slots) (hx : p.tables.exec = Jvm.exec) {pc : Nat} {Ls : Array Slot} {z : Int32} {rest : List Value} (hret : meth.sig.returnType = some .int) (hd : decode c.code pc = .ok (.ireturn, 1)) {fs : List Frame}
    (hl : ∀ (f : JFrame) (acts : List Action), f.method = m → f.locked = none → f.entered = [] → (doReturn e (T.setTop f) acts (some (.int z))).1 = T.setFrames fs) : Steps p.tables e below (T.setTop (mkF m pc Ls (.int z :: rest))) (T.setFrames fs) := by
  have hm' : T.vm.method? m = some meth := X.method'
  have hn : narrow .int (.int z) = .int z := rfl
  show Steps p.tables e below (T.setTop { method := m, pc := pc, locals := Ls, stack := _ :: rest, locked := none }) _
  jvm_step X.here [X.here.top, hx, hd, hm', hret, hn]
  first | (intro acts; rw [hl _ acts rfl rfl rfl]) | rw [hl _ _ rfl rfl rfl]
  exact Steps.refl _
end New
end Jvm.RoadKit
namespace Jvm.Pilot.@@N@@
open Jvm Jvm.ClassFile Sem Op Lib Jvm.Free Jvm.Stand Jvm.LawKit Jvm.RoadKit Bundle Jvm.Pilot.@@N@@.Jvm.D
theorem pn_0 : plainName "com/example/meyrin/meyrin/UrlAuthorityEndPinLaw" = true := by first | (simp [plainName, overriddenIn]; done) | decide +kernel
theorem pn_1 : plainName "com/example/meyrin/meyrin/Url" = true := by first | (simp [plainName, overriddenIn]; done) | decide +kernel
theorem pd_0 : parseMethodDescriptor "([C)V" = some ⟨[(.array .char)], none⟩ := by decide +kernel
theorem pd_1 : parseMethodDescriptor "(Ljava/lang/String;IIIIIIII)V" = some ⟨[(.object "java/lang/String"), .int, .int, .int, .int, .int, .int, .int, .int], none⟩ := by decide +kernel
theorem pd_2 : parseMethodDescriptor "()I" = some ⟨[], some .int⟩ := by decide +kernel
theorem pd_3 : parseMethodDescriptor "(I)I" = some ⟨[.int], some .int⟩ := by decide +kernel
theorem pd_4 : parseMethodDescriptor "([CIII)V" = some ⟨[(.array .char), .int, .int, .int], none⟩ := by decide +kernel
theorem own_stak {Z : State} {h h' : Heap} {C n d : String} {v : Value} {ws : List Addr} (F : Sta Z h C n d v) (K : Keep h h' ws) (q : ∀ x ∈ ws, ∀ cell : Cell, h[x]? = some cell → cell.vm.isStatics = false) : Sta Z h' C n d v := by
  obtain ⟨cf, i, k, f, st, cell, h1, h2, h3, h4, h5, h6, h7⟩ := F
  exact ⟨cf, i, k, f, st, cell, h1, h2, h3, h4, K.2.1 st cell h5 (fun z => by have r := q st z cell h5; rw [h6] at r; cases r), h6, h7⟩

theorem d9_0 : decode method_3_code 0 = .ok (.iload_n 0, 1) := by decide +kernel
theorem d9_1 : decode method_3_code 1 = .ok (.bipush 10, 2) := by decide +kernel
theorem d9_3 : decode method_3_code 3 = .ok (.if_icmp .ge 7, 3) := by decide +kernel
theorem d9_6 : decode method_3_code 6 = .ok (.iconst 1, 1) := by decide +kernel
theorem d9_7 : decode method_3_code 7 = .ok (.goto 36, 3) := by decide +kernel
theorem d9_10 : decode method_3_code 10 = .ok (.iload_n 0, 1) := by decide +kernel
theorem d9_11 : decode method_3_code 11 = .ok (.bipush 100, 2) := by decide +kernel
theorem d9_13 : decode method_3_code 13 = .ok (.if_icmp .ge 7, 3) := by decide +kernel
theorem d9_16 : decode method_3_code 16 = .ok (.iconst 2, 1) := by decide +kernel
theorem d9_17 : decode method_3_code 17 = .ok (.goto 26, 3) := by decide +kernel
theorem d9_20 : decode method_3_code 20 = .ok (.iload_n 0, 1) := by decide +kernel
theorem d9_21 : decode method_3_code 21 = .ok (.sipush 1000, 3) := by decide +kernel
theorem d9_24 : decode method_3_code 24 = .ok (.if_icmp .ge 7, 3) := by decide +kernel
theorem d9_27 : decode method_3_code 27 = .ok (.iconst 3, 1) := by decide +kernel
theorem d9_28 : decode method_3_code 28 = .ok (.goto 15, 3) := by decide +kernel
theorem d9_31 : decode method_3_code 31 = .ok (.iload_n 0, 1) := by decide +kernel
theorem d9_32 : decode method_3_code 32 = .ok (.sipush 10000, 3) := by decide +kernel
theorem d9_35 : decode method_3_code 35 = .ok (.if_icmp .ge 7, 3) := by decide +kernel
theorem d9_38 : decode method_3_code 38 = .ok (.iconst 4, 1) := by decide +kernel
theorem d9_39 : decode method_3_code 39 = .ok (.goto 4, 3) := by decide +kernel
theorem d9_42 : decode method_3_code 42 = .ok (.iconst 5, 1) := by decide +kernel
theorem d9_43 : decode method_3_code 43 = .ok (.ireturn, 1) := by decide +kernel
def own_f9 (p1 : Int32) : Int32 := (if p1 < (10 : Int32) then (1 : Int32) else (if p1 < (100 : Int32) then (2 : Int32) else (if p1 < (1000 : Int32) then (3 : Int32) else (if p1 < (10000 : Int32) then (4 : Int32) else (5 : Int32)))))
def Q9 (p1 : Int32) (h0 : Heap) (n0 : Nat) (v : Option Value) (h : Heap) (L : List Loc) : Prop := v = some (.int (own_f9 p1)) ∧ Fr n0 L ∧ h = h0
theorem ef_9 (m : MethodId) (x0 : Int32) : entryFrame m #[(.int x0)] 1 = mkF m 0 #[.val (.int x0)] [] := by first | (simp [entryFrame, mkF, argsToLocals, Value.category]; done) | rfl
set_option maxRecDepth 65536 in
set_option maxHeartbeats 40000000 in
theorem rm9 (l : Launch) (Z : State) (a0 : Array Value) (hw : ∀ d ∈ tables_1, d.before a0 Z = true) (ws : List Jvm.Cond) (p1 : Int32) (h0 : Heap) (n0 : Nat) :
    MetFree l (⟨"com/example/meyrin/meyrin/UrlAuthorityEndPinLaw", "digitCount", "(I)I"⟩ : MethodName) (head1 (Jvm.Cond.code (⟨"com/example/meyrin/meyrin/UrlAuthorityEndPinLaw", "digitCount", "(I)I"⟩ : MethodName) method_3_code 1 (some .int) :: ws) ({ frames := 0, cells := 0, slots := 0, locals := 0 } : Room)) (fun a U => a = #[(.int p1)] ∧ Z.Warmed39 U.vm ∧ U.heap = h0) (fun _ _ _ _ _ => True) (fun _ U o U' => ∃ v L, o = .returned v ∧ Q9 p1 h0 n0 v U'.heap L ∧ FrameEnd U o U' L ({ frames := 0, cells := 0, slots := 0, locals := 0 } : Room).cells ({ frames := 0, cells := 0, slots := 0, locals := 0 } : Room).slots) := by
  refine MetFree.of_bodySF (plainFor_of_name pn_0) hisR ?_
  intro p e s m args below meth c s₁ Bd hml0 hP hK
  obtain ⟨rfl, hZ, hh⟩ := hP
  have hx := Bd.exec
  have hby := Bd.bytes
  have hml : c.maxLocals = 1 := hml0
  have hown : s.vm.findClass "com/example/meyrin/meyrin/UrlAuthorityEndPinLaw" = some m.cls := findClass_of_methodNamed Bd.named
  have hnm := (name_of_methodNamed Bd.named Bd.method).1
  have X0 : Stand p l e ({ frames := 0, cells := 0, slots := 0, locals := 0 } : Room) s m #[(.int p1)] below meth c s₁ [] 0 0 := Stand.of_body Bd
  have e0 : s₁.heap = h0 := by rw [← hh, Bd.state]; rfl
  have N0 := Fr.nil n0
  have pre0 : ∀ t, Steps p.tables e below (s₁.setTop (mkF m 0 #[.val (.int p1)] [])) t → Steps p.tables e below (s₁.setTop (entryFrame m #[(.int p1)] 1)) t := fun t k => castTop (ef_9 m p1) k
  obtain ⟨fs, hr, hrun, hended, hW, hsame⟩ := X0.leave (v := some (.int (own_f9 p1))) (fun h => by rw [Bd.returns] at h; cases h)
  refine ⟨_, _, pre0 _ ?_, hrun, hended, _, _, rfl, ?_, ⟨_, rfl⟩, hW, hsame.mono (by decide) (by decide)⟩
  · skip
    have J0 : ∀ (hv : own_f9 p1 = own_f9 p1 ), Steps p.tables e below (s₁.setTop (mkF m 0 #[.val (.int p1)] [])) (s₁.setFrames fs) := by
      intro hv
      show Steps p.tables e below (s₁.setTop (mkF m 0 #[.val (.int p1)] [])) _
      refine XS.iloadN X0.here hx rfl (hb hby d9_0) rfl ?_
      show Steps p.tables e below (s₁.setTop (mkF m 1 #[.val (.int p1)] [(.int p1)])) _
      refine XS.bipush X0.here hx rfl (hb hby d9_1) ?_
      show Steps p.tables e below (s₁.setTop (mkF m 3 #[.val (.int p1)] [(.int (10 : Int32)), (.int p1)])) _
      by_cases hc3 : p1 < (10 : Int32)
      · replace hv := hv.trans (if_pos hc3)
        refine XS.icmpNo X0.here hx rfl (hb hby d9_3) rfl (tlt hc3).2.1 ?_
        show Steps p.tables e below (s₁.setTop (mkF m 6 #[.val (.int p1)] [])) _
        refine XS.iconst X0.here hx rfl (hb hby d9_6) ?_
        show Steps p.tables e below (s₁.setTop (mkF m 7 #[.val (.int p1)] [(.int (1 : Int32))])) _
        refine XS.goto X0.here hx rfl (pc0 := 7) (pc' := 43) rfl (hb hby d9_7) (by decide) (by decide) ?_
        show Steps p.tables e below (s₁.setTop (mkF m 43 #[.val (.int p1)] [(.int (1 : Int32))])) _
        rw [hv] at hr
        exact retI X0 hx Bd.returns (hb hby d9_43) hr
      · replace hv := hv.trans (if_neg hc3)
        refine XS.icmpYes X0.here hx rfl (pc0 := 3) (pc' := 10) rfl (hb hby d9_3) rfl (flt hc3).2.1 (by decide) (by decide) ?_
        show Steps p.tables e below (s₁.setTop (mkF m 10 #[.val (.int p1)] [])) _
        refine XS.iloadN X0.here hx rfl (hb hby d9_10) rfl ?_
        show Steps p.tables e below (s₁.setTop (mkF m 11 #[.val (.int p1)] [(.int p1)])) _
        refine XS.bipush X0.here hx rfl (hb hby d9_11) ?_
        show Steps p.tables e below (s₁.setTop (mkF m 13 #[.val (.int p1)] [(.int (100 : Int32)), (.int p1)])) _
        by_cases hc13 : p1 < (100 : Int32)
        · replace hv := hv.trans (if_pos hc13)
          refine XS.icmpNo X0.here hx rfl (hb hby d9_13) rfl (tlt hc13).2.1 ?_
          show Steps p.tables e below (s₁.setTop (mkF m 16 #[.val (.int p1)] [])) _
          refine XS.iconst X0.here hx rfl (hb hby d9_16) ?_
          show Steps p.tables e below (s₁.setTop (mkF m 17 #[.val (.int p1)] [(.int (2 : Int32))])) _
          refine XS.goto X0.here hx rfl (pc0 := 17) (pc' := 43) rfl (hb hby d9_17) (by decide) (by decide) ?_
          show Steps p.tables e below (s₁.setTop (mkF m 43 #[.val (.int p1)] [(.int (2 : Int32))])) _
          rw [hv] at hr
          exact retI X0 hx Bd.returns (hb hby d9_43) hr
        · replace hv := hv.trans (if_neg hc13)
          refine XS.icmpYes X0.here hx rfl (pc0 := 13) (pc' := 20) rfl (hb hby d9_13) rfl (flt hc13).2.1 (by decide) (by decide) ?_
          show Steps p.tables e below (s₁.setTop (mkF m 20 #[.val (.int p1)] [])) _
          refine XS.iloadN X0.here hx rfl (hb hby d9_20) rfl ?_
          show Steps p.tables e below (s₁.setTop (mkF m 21 #[.val (.int p1)] [(.int p1)])) _
          refine XS.sipush X0.here hx rfl (hb hby d9_21) ?_
          show Steps p.tables e below (s₁.setTop (mkF m 24 #[.val (.int p1)] [(.int (1000 : Int32)), (.int p1)])) _
          by_cases hc24 : p1 < (1000 : Int32)
          · replace hv := hv.trans (if_pos hc24)
            refine XS.icmpNo X0.here hx rfl (hb hby d9_24) rfl (tlt hc24).2.1 ?_
            show Steps p.tables e below (s₁.setTop (mkF m 27 #[.val (.int p1)] [])) _
            refine XS.iconst X0.here hx rfl (hb hby d9_27) ?_
            show Steps p.tables e below (s₁.setTop (mkF m 28 #[.val (.int p1)] [(.int (3 : Int32))])) _
            refine XS.goto X0.here hx rfl (pc0 := 28) (pc' := 43) rfl (hb hby d9_28) (by decide) (by decide) ?_
            show Steps p.tables e below (s₁.setTop (mkF m 43 #[.val (.int p1)] [(.int (3 : Int32))])) _
            rw [hv] at hr
            exact retI X0 hx Bd.returns (hb hby d9_43) hr
          · replace hv := hv.trans (if_neg hc24)
            refine XS.icmpYes X0.here hx rfl (pc0 := 24) (pc' := 31) rfl (hb hby d9_24) rfl (flt hc24).2.1 (by decide) (by decide) ?_
            show Steps p.tables e below (s₁.setTop (mkF m 31 #[.val (.int p1)] [])) _
            refine XS.iloadN X0.here hx rfl (hb hby d9_31) rfl ?_
            show Steps p.tables e below (s₁.setTop (mkF m 32 #[.val (.int p1)] [(.int p1)])) _
            refine XS.sipush X0.here hx rfl (hb hby d9_32) ?_
            show Steps p.tables e below (s₁.setTop (mkF m 35 #[.val (.int p1)] [(.int (10000 : Int32)), (.int p1)])) _
            by_cases hc35 : p1 < (10000 : Int32)
            · replace hv := hv.trans (if_pos hc35)
              refine XS.icmpNo X0.here hx rfl (hb hby d9_35) rfl (tlt hc35).2.1 ?_
              show Steps p.tables e below (s₁.setTop (mkF m 38 #[.val (.int p1)] [])) _
              refine XS.iconst X0.here hx rfl (hb hby d9_38) ?_
              show Steps p.tables e below (s₁.setTop (mkF m 39 #[.val (.int p1)] [(.int (4 : Int32))])) _
              refine XS.goto X0.here hx rfl (pc0 := 39) (pc' := 43) rfl (hb hby d9_39) (by decide) (by decide) ?_
              show Steps p.tables e below (s₁.setTop (mkF m 43 #[.val (.int p1)] [(.int (4 : Int32))])) _
              rw [hv] at hr
              exact retI X0 hx Bd.returns (hb hby d9_43) hr
            · replace hv := hv.trans (if_neg hc35)
              refine XS.icmpYes X0.here hx rfl (pc0 := 35) (pc' := 42) rfl (hb hby d9_35) rfl (flt hc35).2.1 (by decide) (by decide) ?_
              show Steps p.tables e below (s₁.setTop (mkF m 42 #[.val (.int p1)] [])) _
              refine XS.iconst X0.here hx rfl (hb hby d9_42) ?_
              show Steps p.tables e below (s₁.setTop (mkF m 43 #[.val (.int p1)] [(.int (5 : Int32))])) _
              rw [hv] at hr
              exact retI X0 hx Bd.returns (hb hby d9_43) hr
    exact J0 rfl
  · show Q9 p1 h0 n0 _ s₁.heap _
    rw [e0]
    exact ⟨rfl, N0, rfl⟩

def own_ok (vs : List Value) : Prop := ∃ cs : List Int32, vs = cs.map Value.int ∧ cs.length = 20 ∧ ∀ c ∈ cs, ¬ c < 0 ∧ ¬ (255 : Int32) < c
theorem own_okset {vs : List Value} (h : own_ok vs) (j : Nat) {x : Int32} (hx : ¬ x < 0 ∧ ¬ (255 : Int32) < x) : own_ok (vs.set j (.int x)) := by
  obtain ⟨cs, rfl, h2, h3⟩ := h
  refine ⟨cs.set j x, by rw [List.map_set], by simpa using h2, fun c hc => ?_⟩
  rcases List.mem_or_eq_of_mem_set hc with q | q
  · exact h3 c q
  · exact q ▸ hx
theorem own_oklt {vs : List Value} (h : own_ok vs) {j : Int32} (hj : ¬ j < 0 ∧ j < (20 : Int32)) : j.toNatClampNeg < vs.length := by
  obtain ⟨cs, rfl, h2, -⟩ := h
  have e : (20 : Int32).toInt = 20 := by decide
  rw [Int32.lt_iff_toInt_lt, Int32.lt_iff_toInt_lt, e, Int32.toInt_zero] at hj
  rw [List.length_map, h2]; show j.toInt.toNat < 20; omega
theorem own_in {j : Int32} (h : 0 ≤ j.toInt ∧ j.toInt < 20) : ¬ j < 0 ∧ j < (20 : Int32) := by
  have e : (20 : Int32).toInt = 20 := by decide
  rw [Int32.lt_iff_toInt_lt, Int32.lt_iff_toInt_lt, e, Int32.toInt_zero]; omega
theorem own_addI {a b : Int32} {x y : Int} (ha : a.toInt = x) (hb : b.toInt = y) (h1 : -1000 ≤ x) (h2 : x ≤ 1000) (h3 : -1000 ≤ y) (h4 : y ≤ 1000) : (a + b).toInt = x + y := by
  rw [Jvm.Kit.i32_add (by omega) (by omega), ha, hb]
theorem own_subI {a b : Int32} {x y : Int} (ha : a.toInt = x) (hb : b.toInt = y) (h1 : -1000 ≤ x) (h2 : x ≤ 1000) (h3 : -1000 ≤ y) (h4 : y ≤ 1000) : (a - b).toInt = x - y := by
  rw [Jvm.Kit.i32_sub (by omega) (by omega), ha, hb]
theorem own_fin10 : ∀ k : Fin 10, ¬ nar .char (((48 : Int32) + Int32.ofNat k.val).toUInt32.toUInt16.toUInt32.toInt32) < 0 ∧ ¬ (255 : Int32) < nar .char (((48 : Int32) + Int32.ofNat k.val).toUInt32.toUInt16.toUInt32.toInt32) := by decide +kernel
theorem own_dig {q : Int32} (h : 0 ≤ q.toInt) : ¬ nar .char (((48 : Int32) + (q % (10 : Int32))).toUInt32.toUInt16.toUInt32.toInt32) < 0 ∧ ¬ (255 : Int32) < nar .char (((48 : Int32) + (q % (10 : Int32))).toUInt32.toUInt16.toUInt32.toInt32) := by
  have e := Jvm.Kit.i32_rem_nonneg (x := q) (y := 10) h
  have e10 : (10 : Int32).toInt = 10 := by decide
  rw [e10] at e
  have t : ∀ k : Fin 10, (Int32.ofNat k.val).toInt = (k.val : Int) := by decide +kernel
  have e2 : q % 10 = Int32.ofNat (q.toInt % 10).toNat := by
    apply Int32.toInt_inj.mp
    rw [e]
    have := t ⟨(q.toInt % 10).toNat, by omega⟩
    rw [this]; show q.toInt % 10 = (((q.toInt % 10).toNat : Nat) : Int); omega
  rw [e2]; exact own_fin10 ⟨(q.toInt % 10).toNat, by omega⟩
theorem own_divn {p d : Int32} (h : 0 ≤ p.toInt) (hd : 0 < d.toInt) : 0 ≤ (p / d).toInt := by
  rw [Jvm.Kit.i32_div (by omega)]; exact Int.tdiv_nonneg h (by omega)
theorem own_k (p : Int32) : 1 ≤ (own_f9 p).toInt ∧ (own_f9 p).toInt ≤ 5 := by
  unfold own_f9; repeat' split
  all_goals decide
theorem own_port (x : Int32) : 0 ≤ ((x &&& (2147483647 : Int32)) % (65536 : Int32)).toInt := by
  have e := Jvm.Kit.i32_mask x 2147483647 (k := 31) (by decide) (by decide)
  have e2 := Jvm.Kit.i32_rem_nonneg (x := x &&& 2147483647) (y := 65536) (by rw [e]; omega)
  have e3 : (65536 : Int32).toInt = 65536 := by decide
  rw [e2, e3]; omega
theorem own_m3 (x : Int32) : 0 ≤ (x &&& (3 : Int32)).toInt ∧ (x &&& (3 : Int32)).toInt ≤ 3 := by
  have e := Jvm.Kit.i32_mask x 3 (k := 2) (by decide) (by decide)
  rw [e]; omega
theorem own_u {v h q : Int32} (e : v = if h = (0 : Int32) then (0 : Int32) else ((q &&& (3 : Int32)) % (3 : Int32))) : 0 ≤ v.toInt ∧ v.toInt ≤ 2 := by
  rw [e]; split
  · decide
  · have := own_m3 q
    have e3 : (3 : Int32).toInt = 3 := by decide
    rw [Jvm.Kit.i32_rem_nonneg (x := q &&& 3) (y := 3) this.1, e3]; omega
theorem own_hs {u hs : Int32} (hu : 0 ≤ u.toInt ∧ u.toInt ≤ 2) (e : hs = if (0 : Int32) < u then ((5 : Int32) + u) else (4 : Int32)) : 4 ≤ hs.toInt ∧ hs.toInt ≤ 7 := by
  rw [e]; split
  · rw [own_addI (show (5 : Int32).toInt = 5 by decide) rfl (by omega) (by omega) (by omega) (by omega)]; omega
  · decide
theorem own_pn (x : Int32) : ¬ ((x &&& (2147483647 : Int32)) % (65536 : Int32)) < (0 : Int32) := by
  rw [Int32.lt_iff_toInt_lt, Int32.toInt_zero]; have := own_port x; omega

def Qrm10 (Z : State) (a1 : Addr) (p2 : Int32) (p3 : Int32) (p4 : Int32) (kd : ClassId) (vs : List Value) (h0 : Heap) (n0 : Nat) (v : Option Value) (h : Heap) (L : List Loc) : Prop := ∃ (vz : List Value), v = none ∧ Fr n0 L ∧ Keep h0 h [a1] ∧ Arv Z h a1 kd .char (20 : Int32) vz (.int (0 : Int32)) ∧ own_ok vz
theorem d10_0 : decode method_4_code 0 = .ok (.aload_n 0, 1) := by decide +kernel
theorem d10_1 : decode method_4_code 1 = .ok (.iload_n 1, 1) := by decide +kernel
theorem d10_2 : decode method_4_code 2 = .ok (.iconst 1, 1) := by decide +kernel
theorem d10_3 : decode method_4_code 3 = .ok (.isub, 1) := by decide +kernel
theorem d10_4 : decode method_4_code 4 = .ok (.bipush 48, 2) := by decide +kernel
theorem d10_6 : decode method_4_code 6 = .ok (.iload_n 2, 1) := by decide +kernel
theorem d10_7 : decode method_4_code 7 = .ok (.bipush 10, 2) := by decide +kernel
theorem d10_9 : decode method_4_code 9 = .ok (.irem, 1) := by decide +kernel
theorem d10_10 : decode method_4_code 10 = .ok (.iadd, 1) := by decide +kernel
theorem d10_11 : decode method_4_code 11 = .ok (.i2c, 1) := by decide +kernel
theorem d10_12 : decode method_4_code 12 = .ok (.castore, 1) := by decide +kernel
theorem d10_13 : decode method_4_code 13 = .ok (.iload_n 3, 1) := by decide +kernel
theorem d10_14 : decode method_4_code 14 = .ok (.iconst 1, 1) := by decide +kernel
theorem d10_15 : decode method_4_code 15 = .ok (.if_icmp .le 19, 3) := by decide +kernel
theorem d10_18 : decode method_4_code 18 = .ok (.aload_n 0, 1) := by decide +kernel
theorem d10_19 : decode method_4_code 19 = .ok (.iload_n 1, 1) := by decide +kernel
theorem d10_20 : decode method_4_code 20 = .ok (.iconst 2, 1) := by decide +kernel
theorem d10_21 : decode method_4_code 21 = .ok (.isub, 1) := by decide +kernel
theorem d10_22 : decode method_4_code 22 = .ok (.bipush 48, 2) := by decide +kernel
theorem d10_24 : decode method_4_code 24 = .ok (.iload_n 2, 1) := by decide +kernel
theorem d10_25 : decode method_4_code 25 = .ok (.bipush 10, 2) := by decide +kernel
theorem d10_27 : decode method_4_code 27 = .ok (.idiv, 1) := by decide +kernel
theorem d10_28 : decode method_4_code 28 = .ok (.bipush 10, 2) := by decide +kernel
theorem d10_30 : decode method_4_code 30 = .ok (.irem, 1) := by decide +kernel
theorem d10_31 : decode method_4_code 31 = .ok (.iadd, 1) := by decide +kernel
theorem d10_32 : decode method_4_code 32 = .ok (.i2c, 1) := by decide +kernel
theorem d10_33 : decode method_4_code 33 = .ok (.castore, 1) := by decide +kernel
theorem d10_34 : decode method_4_code 34 = .ok (.iload_n 3, 1) := by decide +kernel
theorem d10_35 : decode method_4_code 35 = .ok (.iconst 2, 1) := by decide +kernel
theorem d10_36 : decode method_4_code 36 = .ok (.if_icmp .le 19, 3) := by decide +kernel
theorem d10_39 : decode method_4_code 39 = .ok (.aload_n 0, 1) := by decide +kernel
theorem d10_40 : decode method_4_code 40 = .ok (.iload_n 1, 1) := by decide +kernel
theorem d10_41 : decode method_4_code 41 = .ok (.iconst 3, 1) := by decide +kernel
theorem d10_42 : decode method_4_code 42 = .ok (.isub, 1) := by decide +kernel
theorem d10_43 : decode method_4_code 43 = .ok (.bipush 48, 2) := by decide +kernel
theorem d10_45 : decode method_4_code 45 = .ok (.iload_n 2, 1) := by decide +kernel
theorem d10_46 : decode method_4_code 46 = .ok (.bipush 100, 2) := by decide +kernel
theorem d10_48 : decode method_4_code 48 = .ok (.idiv, 1) := by decide +kernel
theorem d10_49 : decode method_4_code 49 = .ok (.bipush 10, 2) := by decide +kernel
theorem d10_51 : decode method_4_code 51 = .ok (.irem, 1) := by decide +kernel
theorem d10_52 : decode method_4_code 52 = .ok (.iadd, 1) := by decide +kernel
theorem d10_53 : decode method_4_code 53 = .ok (.i2c, 1) := by decide +kernel
theorem d10_54 : decode method_4_code 54 = .ok (.castore, 1) := by decide +kernel
theorem d10_55 : decode method_4_code 55 = .ok (.iload_n 3, 1) := by decide +kernel
theorem d10_56 : decode method_4_code 56 = .ok (.iconst 3, 1) := by decide +kernel
theorem d10_57 : decode method_4_code 57 = .ok (.if_icmp .le 20, 3) := by decide +kernel
theorem d10_60 : decode method_4_code 60 = .ok (.aload_n 0, 1) := by decide +kernel
theorem d10_61 : decode method_4_code 61 = .ok (.iload_n 1, 1) := by decide +kernel
theorem d10_62 : decode method_4_code 62 = .ok (.iconst 4, 1) := by decide +kernel
theorem d10_63 : decode method_4_code 63 = .ok (.isub, 1) := by decide +kernel
theorem d10_64 : decode method_4_code 64 = .ok (.bipush 48, 2) := by decide +kernel
theorem d10_66 : decode method_4_code 66 = .ok (.iload_n 2, 1) := by decide +kernel
theorem d10_67 : decode method_4_code 67 = .ok (.sipush 1000, 3) := by decide +kernel
theorem d10_70 : decode method_4_code 70 = .ok (.idiv, 1) := by decide +kernel
theorem d10_71 : decode method_4_code 71 = .ok (.bipush 10, 2) := by decide +kernel
theorem d10_73 : decode method_4_code 73 = .ok (.irem, 1) := by decide +kernel
theorem d10_74 : decode method_4_code 74 = .ok (.iadd, 1) := by decide +kernel
theorem d10_75 : decode method_4_code 75 = .ok (.i2c, 1) := by decide +kernel
theorem d10_76 : decode method_4_code 76 = .ok (.castore, 1) := by decide +kernel
theorem d10_77 : decode method_4_code 77 = .ok (.iload_n 3, 1) := by decide +kernel
theorem d10_78 : decode method_4_code 78 = .ok (.iconst 4, 1) := by decide +kernel
theorem d10_79 : decode method_4_code 79 = .ok (.if_icmp .le 20, 3) := by decide +kernel
theorem d10_82 : decode method_4_code 82 = .ok (.aload_n 0, 1) := by decide +kernel
theorem d10_83 : decode method_4_code 83 = .ok (.iload_n 1, 1) := by decide +kernel
theorem d10_84 : decode method_4_code 84 = .ok (.iconst 5, 1) := by decide +kernel
theorem d10_85 : decode method_4_code 85 = .ok (.isub, 1) := by decide +kernel
theorem d10_86 : decode method_4_code 86 = .ok (.bipush 48, 2) := by decide +kernel
theorem d10_88 : decode method_4_code 88 = .ok (.iload_n 2, 1) := by decide +kernel
theorem d10_89 : decode method_4_code 89 = .ok (.sipush 10000, 3) := by decide +kernel
theorem d10_92 : decode method_4_code 92 = .ok (.idiv, 1) := by decide +kernel
theorem d10_93 : decode method_4_code 93 = .ok (.bipush 10, 2) := by decide +kernel
theorem d10_95 : decode method_4_code 95 = .ok (.irem, 1) := by decide +kernel
theorem d10_96 : decode method_4_code 96 = .ok (.iadd, 1) := by decide +kernel
theorem d10_97 : decode method_4_code 97 = .ok (.i2c, 1) := by decide +kernel
theorem d10_98 : decode method_4_code 98 = .ok (.castore, 1) := by decide +kernel
theorem d10_99 : decode method_4_code 99 = .ok (.return_, 1) := by decide +kernel
theorem ef_10 (m : MethodId) (x0 : Addr) (x1 : Int32) (x2 : Int32) (x3 : Int32) : entryFrame m #[(.ref x0), (.int x1), (.int x2), (.int x3)] 4 = mkF m 0 #[.val (.ref x0), .val (.int x1), .val (.int x2), .val (.int x3)] [] := by first | (simp [entryFrame, mkF, argsToLocals, Value.category]; done) | rfl
set_option maxRecDepth 65536 in
set_option maxHeartbeats 40000000 in
theorem rm10 (l : Launch) (Z : State) (a0 : Array Value) (hw : ∀ d ∈ tables_1, d.before a0 Z = true) (ws : List Jvm.Cond) (a1 : Addr) (p2 : Int32) (p3 : Int32) (p4 : Int32) (kd : ClassId) (vs : List Value) (h0 : Heap) (n0 : Nat) (Z0 : n0 ≤ h0.size) (V_a1 : Arv Z h0 a1 kd .char (20 : Int32) vs (.int (0 : Int32))) (ge_a1 : n0 ≤ a1) (hok : own_ok vs) (he : 5 ≤ p2.toInt ∧ p2.toInt < 20) (hp : 0 ≤ p3.toInt) :
    MetFree l (⟨"com/example/meyrin/meyrin/UrlAuthorityEndPinLaw", "writeDigits", "([CIII)V"⟩ : MethodName) (head1 (Jvm.Cond.code (⟨"com/example/meyrin/meyrin/UrlAuthorityEndPinLaw", "writeDigits", "([CIII)V"⟩ : MethodName) method_4_code 4 none :: ws) ({ frames := 0, cells := 0, slots := 0, locals := 0 } : Room)) (fun a U => a = #[(.ref a1), (.int p2), (.int p3), (.int p4)] ∧ Z.Warmed39 U.vm ∧ U.heap = h0) (fun _ _ _ _ _ => True) (fun _ U o U' => ∃ v L, o = .returned v ∧ Qrm10 Z a1 p2 p3 p4 kd vs h0 n0 v U'.heap L ∧ FrameEnd U o U' L ({ frames := 0, cells := 0, slots := 0, locals := 0 } : Room).cells ({ frames := 0, cells := 0, slots := 0, locals := 0 } : Room).slots) := by
  refine MetFree.of_bodySF (plainFor_of_name pn_0) hisR ?_
  intro p e s m args below meth c s₁ Bd hml0 hP hK
  obtain ⟨rfl, hZ, hh⟩ := hP
  have hx := Bd.exec
  have hby := Bd.bytes
  have hml : c.maxLocals = 4 := hml0
  have hown : s.vm.findClass "com/example/meyrin/meyrin/UrlAuthorityEndPinLaw" = some m.cls := findClass_of_methodNamed Bd.named
  have hnm := (name_of_methodNamed Bd.named Bd.method).1
  have X0 : Stand p l e ({ frames := 0, cells := 0, slots := 0, locals := 0 } : Room) s m #[(.ref a1), (.int p2), (.int p3), (.int p4)] below meth c s₁ [] 0 0 := Stand.of_body Bd
  have e0 : s₁.heap = h0 := by rw [← hh, Bd.state]; rfl
  have N0 := Fr.nil n0
  have pre0 : ∀ t, Steps p.tables e below (s₁.setTop (mkF m 0 #[.val (.ref a1), .val (.int p2), .val (.int p3), .val (.int p4)] [])) t → Steps p.tables e below (s₁.setTop (entryFrame m #[(.ref a1), (.int p2), (.int p3), (.int p4)] 4)) t := fun t k => castTop (ef_10 m a1 p2 p3 p4) k
  have pre1 : ∀ t, Steps p.tables e below (s₁.setTop (mkF m 12 #[.val (.ref a1), .val (.int p2), .val (.int p3), .val (.int p4)] [(.int (((48 : Int32) + (p3 % (10 : Int32))).toUInt32.toUInt16.toUInt32.toInt32)), (.int (p2 - (1 : Int32))), (.ref a1)])) t → Steps p.tables e below (s₁.setTop (entryFrame m #[(.ref a1), (.int p2), (.int p3), (.int p4)] 4)) t := by
    intro t kt
    refine pre0 t ?_
    show Steps p.tables e below (s₁.setTop (mkF m 0 #[.val (.ref a1), .val (.int p2), .val (.int p3), .val (.int p4)] [])) _
    refine XS.aloadN X0.here hx rfl (hb hby d10_0) rfl rfl ?_
    show Steps p.tables e below (s₁.setTop (mkF m 1 #[.val (.ref a1), .val (.int p2), .val (.int p3), .val (.int p4)] [(.ref a1)])) _
    refine XS.iloadN X0.here hx rfl (hb hby d10_1) rfl ?_
    show Steps p.tables e below (s₁.setTop (mkF m 2 #[.val (.ref a1), .val (.int p2), .val (.int p3), .val (.int p4)] [(.int p2), (.ref a1)])) _
    refine XS.iconst X0.here hx rfl (hb hby d10_2) ?_
    show Steps p.tables e below (s₁.setTop (mkF m 3 #[.val (.ref a1), .val (.int p2), .val (.int p3), .val (.int p4)] [(.int (1 : Int32)), (.int p2), (.ref a1)])) _
    refine XS.isub X0.here hx rfl (hb hby d10_3) rfl ?_
    show Steps p.tables e below (s₁.setTop (mkF m 4 #[.val (.ref a1), .val (.int p2), .val (.int p3), .val (.int p4)] [(.int (p2 - (1 : Int32))), (.ref a1)])) _
    refine XS.bipush X0.here hx rfl (hb hby d10_4) ?_
    show Steps p.tables e below (s₁.setTop (mkF m 6 #[.val (.ref a1), .val (.int p2), .val (.int p3), .val (.int p4)] [(.int (48 : Int32)), (.int (p2 - (1 : Int32))), (.ref a1)])) _
    refine XS.iloadN X0.here hx rfl (hb hby d10_6) rfl ?_
    show Steps p.tables e below (s₁.setTop (mkF m 7 #[.val (.ref a1), .val (.int p2), .val (.int p3), .val (.int p4)] [(.int p3), (.int (48 : Int32)), (.int (p2 - (1 : Int32))), (.ref a1)])) _
    refine XS.bipush X0.here hx rfl (hb hby d10_7) ?_
    show Steps p.tables e below (s₁.setTop (mkF m 9 #[.val (.ref a1), .val (.int p2), .val (.int p3), .val (.int p4)] [(.int (10 : Int32)), (.int p3), (.int (48 : Int32)), (.int (p2 - (1 : Int32))), (.ref a1)])) _
    refine iremM X0 hx rfl (hb hby d10_9) rfl (by decide) ?_
    show Steps p.tables e below (s₁.setTop (mkF m 10 #[.val (.ref a1), .val (.int p2), .val (.int p3), .val (.int p4)] [(.int (p3 % (10 : Int32))), (.int (48 : Int32)), (.int (p2 - (1 : Int32))), (.ref a1)])) _
    refine XS.iadd X0.here hx rfl (hb hby d10_10) rfl ?_
    show Steps p.tables e below (s₁.setTop (mkF m 11 #[.val (.ref a1), .val (.int p2), .val (.int p3), .val (.int p4)] [(.int ((48 : Int32) + (p3 % (10 : Int32)))), (.int (p2 - (1 : Int32))), (.ref a1)])) _
    refine XS.i2c X0.here hx rfl (hb hby d10_11) rfl ?_
    exact kt
  obtain ⟨cl2, Ar2, q2, S2, M2, H2, G2⟩ := (id V_a1)
  have ok3 : own_ok (vs.set ((p2 - (1 : Int32))).toNatClampNeg (.int (nar .char (((48 : Int32) + (p3 % (10 : Int32))).toUInt32.toUInt16.toUInt32.toInt32)))) := own_okset hok _ (own_dig hp)
  have hin2 : ¬ ((p2 - (1 : Int32)) < 0 ∨ cl2.slots.size ≤ ((p2 - (1 : Int32))).toNatClampNeg) := inb_of S2 (own_in (by rw [own_subI rfl (show (1 : Int32).toInt = 1 by decide) (by omega) (by omega) (by omega) (by omega)]; omega))
  obtain ⟨T2, h2, X2, e2, W2, st2⟩ := stC X0 hx hZ e0 Ar2 (j := (p2 - (1 : Int32))) hin2 (g := (mkF m 12 #[.val (.ref a1), .val (.int p2), .val (.int p3), .val (.int p4)] [(.int (((48 : Int32) + (p3 % (10 : Int32))).toUInt32.toUInt16.toUInt32.toInt32)), (.int (p2 - (1 : Int32))), (.ref a1)])) rfl rfl (hb hby d10_12)
  have V_a1_2 := Arv.set Ar2 q2 S2 M2 H2 G2 (fits_nar_char _) W2 ((p2 - (1 : Int32))).toNatClampNeg rfl (own_oklt hok (own_in (by rw [own_subI rfl (show (1 : Int32).toInt = 1 by decide) (by omega) (by omega) (by omega) (by omega)]; omega)))
  have N2 := Fr.snoc X2 N0 ge_a1
  have K2 : Keep h0 h2 [a1] := (Keep.refl h0 [a1]).wr W2 (Or.inl (List.mem_of_getElem? (i := 0) rfl))
  have Z2 : n0 ≤ h2.size := Nat.le_trans Z0 (Keep.of_wr W2).1
  have pre2 : ∀ t, Steps p.tables e below (T2.setTop (mkF m 13 #[.val (.ref a1), .val (.int p2), .val (.int p3), .val (.int p4)] [])) t → Steps p.tables e below (s₁.setTop (entryFrame m #[(.ref a1), (.int p2), (.int p3), (.int p4)] 4)) t := fun t kt => pre1 t (st2 _ kt)
  have pre5 : ∀ t, Steps p.tables e below (T2.setTop (mkF m 15 #[.val (.ref a1), .val (.int p2), .val (.int p3), .val (.int p4)] [(.int (1 : Int32)), (.int p4)])) t → Steps p.tables e below (s₁.setTop (entryFrame m #[(.ref a1), (.int p2), (.int p3), (.int p4)] 4)) t := by
    intro t kt
    refine pre2 t ?_
    show Steps p.tables e below (T2.setTop (mkF m 13 #[.val (.ref a1), .val (.int p2), .val (.int p3), .val (.int p4)] [])) _
    refine XS.iloadN X2.here hx rfl (hb hby d10_13) rfl ?_
    show Steps p.tables e below (T2.setTop (mkF m 14 #[.val (.ref a1), .val (.int p2), .val (.int p3), .val (.int p4)] [(.int p4)])) _
    refine XS.iconst X2.here hx rfl (hb hby d10_14) ?_
    exact kt
  obtain ⟨T6, h6, L6, vs6_0, X6, e6, N6, K6, Z6, V_a1_6, okvs6_0, pre6⟩ : ∃ (T' : State) (h' : Heap) (L' : List Loc) (vs6_0 : List Value), Stand p l e ({ frames := 0, cells := 0, slots := 0, locals := 0 } : Room) s m #[(.ref a1), (.int p2), (.int p3), (.int p4)] below meth c T' L' 0 0 ∧ T'.heap = h' ∧ Fr n0 L' ∧ Keep h0 h' [a1] ∧ n0 ≤ h'.size ∧ Arv Z h' a1 kd .char (20 : Int32) vs6_0 (.int (0 : Int32)) ∧ own_ok vs6_0 ∧ ∀ t, Steps p.tables e below (T'.setTop (mkF m 34 #[.val (.ref a1), .val (.int p2), .val (.int p3), .val (.int p4)] [])) t → Steps p.tables e below (s₁.setTop (entryFrame m #[(.ref a1), (.int p2), (.int p3), (.int p4)] 4)) t := by
    by_cases hc15 : (1 : Int32) < p4
    · skip
      have pre7 : ∀ t, Steps p.tables e below (T2.setTop (mkF m 18 #[.val (.ref a1), .val (.int p2), .val (.int p3), .val (.int p4)] [])) t → Steps p.tables e below (s₁.setTop (entryFrame m #[(.ref a1), (.int p2), (.int p3), (.int p4)] 4)) t := by
        intro t kt
        refine pre5 t ?_
        show Steps p.tables e below (T2.setTop (mkF m 15 #[.val (.ref a1), .val (.int p2), .val (.int p3), .val (.int p4)] [(.int (1 : Int32)), (.int p4)])) _
        refine XS.icmpNo X2.here hx rfl (hb hby d10_15) rfl (tlt hc15).2.2.2 ?_
        exact kt
      have pre8 : ∀ t, Steps p.tables e below (T2.setTop (mkF m 33 #[.val (.ref a1), .val (.int p2), .val (.int p3), .val (.int p4)] [(.int (((48 : Int32) + ((p3 / (10 : Int32)) % (10 : Int32))).toUInt32.toUInt16.toUInt32.toInt32)), (.int (p2 - (2 : Int32))), (.ref a1)])) t → Steps p.tables e below (s₁.setTop (entryFrame m #[(.ref a1), (.int p2), (.int p3), (.int p4)] 4)) t := by
        intro t kt
        refine pre7 t ?_
        show Steps p.tables e below (T2.setTop (mkF m 18 #[.val (.ref a1), .val (.int p2), .val (.int p3), .val (.int p4)] [])) _
        refine XS.aloadN X2.here hx rfl (hb hby d10_18) rfl rfl ?_
        show Steps p.tables e below (T2.setTop (mkF m 19 #[.val (.ref a1), .val (.int p2), .val (.int p3), .val (.int p4)] [(.ref a1)])) _
        refine XS.iloadN X2.here hx rfl (hb hby d10_19) rfl ?_
        show Steps p.tables e below (T2.setTop (mkF m 20 #[.val (.ref a1), .val (.int p2), .val (.int p3), .val (.int p4)] [(.int p2), (.ref a1)])) _
        refine XS.iconst X2.here hx rfl (hb hby d10_20) ?_
        show Steps p.tables e below (T2.setTop (mkF m 21 #[.val (.ref a1), .val (.int p2), .val (.int p3), .val (.int p4)] [(.int (2 : Int32)), (.int p2), (.ref a1)])) _
        refine XS.isub X2.here hx rfl (hb hby d10_21) rfl ?_
        show Steps p.tables e below (T2.setTop (mkF m 22 #[.val (.ref a1), .val (.int p2), .val (.int p3), .val (.int p4)] [(.int (p2 - (2 : Int32))), (.ref a1)])) _
        refine XS.bipush X2.here hx rfl (hb hby d10_22) ?_
        show Steps p.tables e below (T2.setTop (mkF m 24 #[.val (.ref a1), .val (.int p2), .val (.int p3), .val (.int p4)] [(.int (48 : Int32)), (.int (p2 - (2 : Int32))), (.ref a1)])) _
        refine XS.iloadN X2.here hx rfl (hb hby d10_24) rfl ?_
        show Steps p.tables e below (T2.setTop (mkF m 25 #[.val (.ref a1), .val (.int p2), .val (.int p3), .val (.int p4)] [(.int p3), (.int (48 : Int32)), (.int (p2 - (2 : Int32))), (.ref a1)])) _
        refine XS.bipush X2.here hx rfl (hb hby d10_25) ?_
        show Steps p.tables e below (T2.setTop (mkF m 27 #[.val (.ref a1), .val (.int p2), .val (.int p3), .val (.int p4)] [(.int (10 : Int32)), (.int p3), (.int (48 : Int32)), (.int (p2 - (2 : Int32))), (.ref a1)])) _
        refine XS.idiv X2.here hx rfl (hb hby d10_27) rfl (by decide) ?_
        show Steps p.tables e below (T2.setTop (mkF m 28 #[.val (.ref a1), .val (.int p2), .val (.int p3), .val (.int p4)] [(.int (p3 / (10 : Int32))), (.int (48 : Int32)), (.int (p2 - (2 : Int32))), (.ref a1)])) _
        refine XS.bipush X2.here hx rfl (hb hby d10_28) ?_
        show Steps p.tables e below (T2.setTop (mkF m 30 #[.val (.ref a1), .val (.int p2), .val (.int p3), .val (.int p4)] [(.int (10 : Int32)), (.int (p3 / (10 : Int32))), (.int (48 : Int32)), (.int (p2 - (2 : Int32))), (.ref a1)])) _
        refine iremM X2 hx rfl (hb hby d10_30) rfl (by decide) ?_
        show Steps p.tables e below (T2.setTop (mkF m 31 #[.val (.ref a1), .val (.int p2), .val (.int p3), .val (.int p4)] [(.int ((p3 / (10 : Int32)) % (10 : Int32))), (.int (48 : Int32)), (.int (p2 - (2 : Int32))), (.ref a1)])) _
        refine XS.iadd X2.here hx rfl (hb hby d10_31) rfl ?_
        show Steps p.tables e below (T2.setTop (mkF m 32 #[.val (.ref a1), .val (.int p2), .val (.int p3), .val (.int p4)] [(.int ((48 : Int32) + ((p3 / (10 : Int32)) % (10 : Int32)))), (.int (p2 - (2 : Int32))), (.ref a1)])) _
        refine XS.i2c X2.here hx rfl (hb hby d10_32) rfl ?_
        exact kt
      obtain ⟨cl9, Ar9, q9, S9, M9, H9, G9⟩ := (id V_a1_2)
      have ok10 : own_ok ((vs.set ((p2 - (1 : Int32))).toNatClampNeg (.int (nar .char (((48 : Int32) + (p3 % (10 : Int32))).toUInt32.toUInt16.toUInt32.toInt32)))).set ((p2 - (2 : Int32))).toNatClampNeg (.int (nar .char (((48 : Int32) + ((p3 / (10 : Int32)) % (10 : Int32))).toUInt32.toUInt16.toUInt32.toInt32)))) := own_okset ok3 _ (own_dig (own_divn hp (by decide)))
      have hin9 : ¬ ((p2 - (2 : Int32)) < 0 ∨ cl9.slots.size ≤ ((p2 - (2 : Int32))).toNatClampNeg) := inb_of S9 (own_in (by rw [own_subI rfl (show (2 : Int32).toInt = 2 by decide) (by omega) (by omega) (by omega) (by omega)]; omega))
      obtain ⟨T9, h9, X9, e9, W9, st9⟩ := stC X2 hx hZ e2 Ar9 (j := (p2 - (2 : Int32))) hin9 (g := (mkF m 33 #[.val (.ref a1), .val (.int p2), .val (.int p3), .val (.int p4)] [(.int (((48 : Int32) + ((p3 / (10 : Int32)) % (10 : Int32))).toUInt32.toUInt16.toUInt32.toInt32)), (.int (p2 - (2 : Int32))), (.ref a1)])) rfl rfl (hb hby d10_33)
      have V_a1_9 := Arv.set Ar9 q9 S9 M9 H9 G9 (fits_nar_char _) W9 ((p2 - (2 : Int32))).toNatClampNeg rfl (own_oklt ok3 (own_in (by rw [own_subI rfl (show (2 : Int32).toInt = 2 by decide) (by omega) (by omega) (by omega) (by omega)]; omega)))
      have N9 := Fr.snoc X9 N2 ge_a1
      have K9 : Keep h0 h9 [a1] := K2.wr W9 (Or.inl (List.mem_of_getElem? (i := 0) rfl))
      have Z9 : n0 ≤ h9.size := Nat.le_trans Z2 (Keep.of_wr W9).1
      have pre9 : ∀ t, Steps p.tables e below (T9.setTop (mkF m 34 #[.val (.ref a1), .val (.int p2), .val (.int p3), .val (.int p4)] [])) t → Steps p.tables e below (s₁.setTop (entryFrame m #[(.ref a1), (.int p2), (.int p3), (.int p4)] 4)) t := fun t kt => pre8 t (st9 _ kt)
      exact ⟨_, _, _, _, X9, e9, N9, K9, Z9, V_a1_9, ok10, (by (try simp only [if_pos hc15]); exact pre9)⟩
    · skip
      have pre12 : ∀ t, Steps p.tables e below (T2.setTop (mkF m 34 #[.val (.ref a1), .val (.int p2), .val (.int p3), .val (.int p4)] [])) t → Steps p.tables e below (s₁.setTop (entryFrame m #[(.ref a1), (.int p2), (.int p3), (.int p4)] 4)) t := by
        intro t kt
        refine pre5 t ?_
        show Steps p.tables e below (T2.setTop (mkF m 15 #[.val (.ref a1), .val (.int p2), .val (.int p3), .val (.int p4)] [(.int (1 : Int32)), (.int p4)])) _
        refine XS.icmpYes X2.here hx rfl (pc0 := 15) (pc' := 34) rfl (hb hby d10_15) rfl (flt hc15).2.2.2 (by decide) (by decide) ?_
        exact kt
      exact ⟨_, _, _, _, X2, e2, N2, K2, Z2, V_a1_2, ok3, (by (try simp only [if_neg hc15]); exact pre12)⟩
  have pre13 : ∀ t, Steps p.tables e below (T6.setTop (mkF m 36 #[.val (.ref a1), .val (.int p2), .val (.int p3), .val (.int p4)] [(.int (2 : Int32)), (.int p4)])) t → Steps p.tables e below (s₁.setTop (entryFrame m #[(.ref a1), (.int p2), (.int p3), (.int p4)] 4)) t := by
    intro t kt
    refine pre6 t ?_
    show Steps p.tables e below (T6.setTop (mkF m 34 #[.val (.ref a1), .val (.int p2), .val (.int p3), .val (.int p4)] [])) _
    refine XS.iloadN X6.here hx rfl (hb hby d10_34) rfl ?_
    show Steps p.tables e below (T6.setTop (mkF m 35 #[.val (.ref a1), .val (.int p2), .val (.int p3), .val (.int p4)] [(.int p4)])) _
    refine XS.iconst X6.here hx rfl (hb hby d10_35) ?_
    exact kt
  obtain ⟨T14, h14, L14, vs14_0, X14, e14, N14, K14, Z14, V_a1_14, okvs14_0, pre14⟩ : ∃ (T' : State) (h' : Heap) (L' : List Loc) (vs14_0 : List Value), Stand p l e ({ frames := 0, cells := 0, slots := 0, locals := 0 } : Room) s m #[(.ref a1), (.int p2), (.int p3), (.int p4)] below meth c T' L' 0 0 ∧ T'.heap = h' ∧ Fr n0 L' ∧ Keep h0 h' [a1] ∧ n0 ≤ h'.size ∧ Arv Z h' a1 kd .char (20 : Int32) vs14_0 (.int (0 : Int32)) ∧ own_ok vs14_0 ∧ ∀ t, Steps p.tables e below (T'.setTop (mkF m 55 #[.val (.ref a1), .val (.int p2), .val (.int p3), .val (.int p4)] [])) t → Steps p.tables e below (s₁.setTop (entryFrame m #[(.ref a1), (.int p2), (.int p3), (.int p4)] 4)) t := by
    by_cases hc36 : (2 : Int32) < p4
    · skip
      have pre15 : ∀ t, Steps p.tables e below (T6.setTop (mkF m 39 #[.val (.ref a1), .val (.int p2), .val (.int p3), .val (.int p4)] [])) t → Steps p.tables e below (s₁.setTop (entryFrame m #[(.ref a1), (.int p2), (.int p3), (.int p4)] 4)) t := by
        intro t kt
        refine pre13 t ?_
        show Steps p.tables e below (T6.setTop (mkF m 36 #[.val (.ref a1), .val (.int p2), .val (.int p3), .val (.int p4)] [(.int (2 : Int32)), (.int p4)])) _
        refine XS.icmpNo X6.here hx rfl (hb hby d10_36) rfl (tlt hc36).2.2.2 ?_
        exact kt
      have pre16 : ∀ t, Steps p.tables e below (T6.setTop (mkF m 54 #[.val (.ref a1), .val (.int p2), .val (.int p3), .val (.int p4)] [(.int (((48 : Int32) + ((p3 / (100 : Int32)) % (10 : Int32))).toUInt32.toUInt16.toUInt32.toInt32)), (.int (p2 - (3 : Int32))), (.ref a1)])) t → Steps p.tables e below (s₁.setTop (entryFrame m #[(.ref a1), (.int p2), (.int p3), (.int p4)] 4)) t := by
        intro t kt
        refine pre15 t ?_
        show Steps p.tables e below (T6.setTop (mkF m 39 #[.val (.ref a1), .val (.int p2), .val (.int p3), .val (.int p4)] [])) _
        refine XS.aloadN X6.here hx rfl (hb hby d10_39) rfl rfl ?_
        show Steps p.tables e below (T6.setTop (mkF m 40 #[.val (.ref a1), .val (.int p2), .val (.int p3), .val (.int p4)] [(.ref a1)])) _
        refine XS.iloadN X6.here hx rfl (hb hby d10_40) rfl ?_
        show Steps p.tables e below (T6.setTop (mkF m 41 #[.val (.ref a1), .val (.int p2), .val (.int p3), .val (.int p4)] [(.int p2), (.ref a1)])) _
        refine XS.iconst X6.here hx rfl (hb hby d10_41) ?_
        show Steps p.tables e below (T6.setTop (mkF m 42 #[.val (.ref a1), .val (.int p2), .val (.int p3), .val (.int p4)] [(.int (3 : Int32)), (.int p2), (.ref a1)])) _
        refine XS.isub X6.here hx rfl (hb hby d10_42) rfl ?_
        show Steps p.tables e below (T6.setTop (mkF m 43 #[.val (.ref a1), .val (.int p2), .val (.int p3), .val (.int p4)] [(.int (p2 - (3 : Int32))), (.ref a1)])) _
        refine XS.bipush X6.here hx rfl (hb hby d10_43) ?_
        show Steps p.tables e below (T6.setTop (mkF m 45 #[.val (.ref a1), .val (.int p2), .val (.int p3), .val (.int p4)] [(.int (48 : Int32)), (.int (p2 - (3 : Int32))), (.ref a1)])) _
        refine XS.iloadN X6.here hx rfl (hb hby d10_45) rfl ?_
        show Steps p.tables e below (T6.setTop (mkF m 46 #[.val (.ref a1), .val (.int p2), .val (.int p3), .val (.int p4)] [(.int p3), (.int (48 : Int32)), (.int (p2 - (3 : Int32))), (.ref a1)])) _
        refine XS.bipush X6.here hx rfl (hb hby d10_46) ?_
        show Steps p.tables e below (T6.setTop (mkF m 48 #[.val (.ref a1), .val (.int p2), .val (.int p3), .val (.int p4)] [(.int (100 : Int32)), (.int p3), (.int (48 : Int32)), (.int (p2 - (3 : Int32))), (.ref a1)])) _
        refine XS.idiv X6.here hx rfl (hb hby d10_48) rfl (by decide) ?_
        show Steps p.tables e below (T6.setTop (mkF m 49 #[.val (.ref a1), .val (.int p2), .val (.int p3), .val (.int p4)] [(.int (p3 / (100 : Int32))), (.int (48 : Int32)), (.int (p2 - (3 : Int32))), (.ref a1)])) _
        refine XS.bipush X6.here hx rfl (hb hby d10_49) ?_
        show Steps p.tables e below (T6.setTop (mkF m 51 #[.val (.ref a1), .val (.int p2), .val (.int p3), .val (.int p4)] [(.int (10 : Int32)), (.int (p3 / (100 : Int32))), (.int (48 : Int32)), (.int (p2 - (3 : Int32))), (.ref a1)])) _
        refine iremM X6 hx rfl (hb hby d10_51) rfl (by decide) ?_
        show Steps p.tables e below (T6.setTop (mkF m 52 #[.val (.ref a1), .val (.int p2), .val (.int p3), .val (.int p4)] [(.int ((p3 / (100 : Int32)) % (10 : Int32))), (.int (48 : Int32)), (.int (p2 - (3 : Int32))), (.ref a1)])) _
        refine XS.iadd X6.here hx rfl (hb hby d10_52) rfl ?_
        show Steps p.tables e below (T6.setTop (mkF m 53 #[.val (.ref a1), .val (.int p2), .val (.int p3), .val (.int p4)] [(.int ((48 : Int32) + ((p3 / (100 : Int32)) % (10 : Int32)))), (.int (p2 - (3 : Int32))), (.ref a1)])) _
        refine XS.i2c X6.here hx rfl (hb hby d10_53) rfl ?_
        exact kt
      obtain ⟨cl17, Ar17, q17, S17, M17, H17, G17⟩ := (id V_a1_6)
      have ok18 : own_ok (vs6_0.set ((p2 - (3 : Int32))).toNatClampNeg (.int (nar .char (((48 : Int32) + ((p3 / (100 : Int32)) % (10 : Int32))).toUInt32.toUInt16.toUInt32.toInt32)))) := own_okset okvs6_0 _ (own_dig (own_divn hp (by decide)))
      have hin17 : ¬ ((p2 - (3 : Int32)) < 0 ∨ cl17.slots.size ≤ ((p2 - (3 : Int32))).toNatClampNeg) := inb_of S17 (own_in (by rw [own_subI rfl (show (3 : Int32).toInt = 3 by decide) (by omega) (by omega) (by omega) (by omega)]; omega))
      obtain ⟨T17, h17, X17, e17, W17, st17⟩ := stC X6 hx hZ e6 Ar17 (j := (p2 - (3 : Int32))) hin17 (g := (mkF m 54 #[.val (.ref a1), .val (.int p2), .val (.int p3), .val (.int p4)] [(.int (((48 : Int32) + ((p3 / (100 : Int32)) % (10 : Int32))).toUInt32.toUInt16.toUInt32.toInt32)), (.int (p2 - (3 : Int32))), (.ref a1)])) rfl rfl (hb hby d10_54)
      have V_a1_17 := Arv.set Ar17 q17 S17 M17 H17 G17 (fits_nar_char _) W17 ((p2 - (3 : Int32))).toNatClampNeg rfl (own_oklt okvs6_0 (own_in (by rw [own_subI rfl (show (3 : Int32).toInt = 3 by decide) (by omega) (by omega) (by omega) (by omega)]; omega)))
      have N17 := Fr.snoc X17 N6 ge_a1
      have K17 : Keep h0 h17 [a1] := K6.wr W17 (Or.inl (List.mem_of_getElem? (i := 0) rfl))
      have Z17 : n0 ≤ h17.size := Nat.le_trans Z6 (Keep.of_wr W17).1
      have pre17 : ∀ t, Steps p.tables e below (T17.setTop (mkF m 55 #[.val (.ref a1), .val (.int p2), .val (.int p3), .val (.int p4)] [])) t → Steps p.tables e below (s₁.setTop (entryFrame m #[(.ref a1), (.int p2), (.int p3), (.int p4)] 4)) t := fun t kt => pre16 t (st17 _ kt)
      exact ⟨_, _, _, _, X17, e17, N17, K17, Z17, V_a1_17, ok18, (by (try simp only [if_pos hc36]); exact pre17)⟩
    · skip
      have pre20 : ∀ t, Steps p.tables e below (T6.setTop (mkF m 55 #[.val (.ref a1), .val (.int p2), .val (.int p3), .val (.int p4)] [])) t → Steps p.tables e below (s₁.setTop (entryFrame m #[(.ref a1), (.int p2), (.int p3), (.int p4)] 4)) t := by
        intro t kt
        refine pre13 t ?_
        show Steps p.tables e below (T6.setTop (mkF m 36 #[.val (.ref a1), .val (.int p2), .val (.int p3), .val (.int p4)] [(.int (2 : Int32)), (.int p4)])) _
        refine XS.icmpYes X6.here hx rfl (pc0 := 36) (pc' := 55) rfl (hb hby d10_36) rfl (flt hc36).2.2.2 (by decide) (by decide) ?_
        exact kt
      exact ⟨_, _, _, _, X6, e6, N6, K6, Z6, V_a1_6, okvs6_0, (by (try simp only [if_neg hc36]); exact pre20)⟩
  have pre21 : ∀ t, Steps p.tables e below (T14.setTop (mkF m 57 #[.val (.ref a1), .val (.int p2), .val (.int p3), .val (.int p4)] [(.int (3 : Int32)), (.int p4)])) t → Steps p.tables e below (s₁.setTop (entryFrame m #[(.ref a1), (.int p2), (.int p3), (.int p4)] 4)) t := by
    intro t kt
    refine pre14 t ?_
    show Steps p.tables e below (T14.setTop (mkF m 55 #[.val (.ref a1), .val (.int p2), .val (.int p3), .val (.int p4)] [])) _
    refine XS.iloadN X14.here hx rfl (hb hby d10_55) rfl ?_
    show Steps p.tables e below (T14.setTop (mkF m 56 #[.val (.ref a1), .val (.int p2), .val (.int p3), .val (.int p4)] [(.int p4)])) _
    refine XS.iconst X14.here hx rfl (hb hby d10_56) ?_
    exact kt
  obtain ⟨T22, h22, L22, vs22_0, X22, e22, N22, K22, Z22, V_a1_22, okvs22_0, pre22⟩ : ∃ (T' : State) (h' : Heap) (L' : List Loc) (vs22_0 : List Value), Stand p l e ({ frames := 0, cells := 0, slots := 0, locals := 0 } : Room) s m #[(.ref a1), (.int p2), (.int p3), (.int p4)] below meth c T' L' 0 0 ∧ T'.heap = h' ∧ Fr n0 L' ∧ Keep h0 h' [a1] ∧ n0 ≤ h'.size ∧ Arv Z h' a1 kd .char (20 : Int32) vs22_0 (.int (0 : Int32)) ∧ own_ok vs22_0 ∧ ∀ t, Steps p.tables e below (T'.setTop (mkF m 77 #[.val (.ref a1), .val (.int p2), .val (.int p3), .val (.int p4)] [])) t → Steps p.tables e below (s₁.setTop (entryFrame m #[(.ref a1), (.int p2), (.int p3), (.int p4)] 4)) t := by
    by_cases hc57 : (3 : Int32) < p4
    · skip
      have pre23 : ∀ t, Steps p.tables e below (T14.setTop (mkF m 60 #[.val (.ref a1), .val (.int p2), .val (.int p3), .val (.int p4)] [])) t → Steps p.tables e below (s₁.setTop (entryFrame m #[(.ref a1), (.int p2), (.int p3), (.int p4)] 4)) t := by
        intro t kt
        refine pre21 t ?_
        show Steps p.tables e below (T14.setTop (mkF m 57 #[.val (.ref a1), .val (.int p2), .val (.int p3), .val (.int p4)] [(.int (3 : Int32)), (.int p4)])) _
        refine XS.icmpNo X14.here hx rfl (hb hby d10_57) rfl (tlt hc57).2.2.2 ?_
        exact kt
      have pre24 : ∀ t, Steps p.tables e below (T14.setTop (mkF m 76 #[.val (.ref a1), .val (.int p2), .val (.int p3), .val (.int p4)] [(.int (((48 : Int32) + ((p3 / (1000 : Int32)) % (10 : Int32))).toUInt32.toUInt16.toUInt32.toInt32)), (.int (p2 - (4 : Int32))), (.ref a1)])) t → Steps p.tables e below (s₁.setTop (entryFrame m #[(.ref a1), (.int p2), (.int p3), (.int p4)] 4)) t := by
        intro t kt
        refine pre23 t ?_
        show Steps p.tables e below (T14.setTop (mkF m 60 #[.val (.ref a1), .val (.int p2), .val (.int p3), .val (.int p4)] [])) _
        refine XS.aloadN X14.here hx rfl (hb hby d10_60) rfl rfl ?_
        show Steps p.tables e below (T14.setTop (mkF m 61 #[.val (.ref a1), .val (.int p2), .val (.int p3), .val (.int p4)] [(.ref a1)])) _
        refine XS.iloadN X14.here hx rfl (hb hby d10_61) rfl ?_
        show Steps p.tables e below (T14.setTop (mkF m 62 #[.val (.ref a1), .val (.int p2), .val (.int p3), .val (.int p4)] [(.int p2), (.ref a1)])) _
        refine XS.iconst X14.here hx rfl (hb hby d10_62) ?_
        show Steps p.tables e below (T14.setTop (mkF m 63 #[.val (.ref a1), .val (.int p2), .val (.int p3), .val (.int p4)] [(.int (4 : Int32)), (.int p2), (.ref a1)])) _
        refine XS.isub X14.here hx rfl (hb hby d10_63) rfl ?_
        show Steps p.tables e below (T14.setTop (mkF m 64 #[.val (.ref a1), .val (.int p2), .val (.int p3), .val (.int p4)] [(.int (p2 - (4 : Int32))), (.ref a1)])) _
        refine XS.bipush X14.here hx rfl (hb hby d10_64) ?_
        show Steps p.tables e below (T14.setTop (mkF m 66 #[.val (.ref a1), .val (.int p2), .val (.int p3), .val (.int p4)] [(.int (48 : Int32)), (.int (p2 - (4 : Int32))), (.ref a1)])) _
        refine XS.iloadN X14.here hx rfl (hb hby d10_66) rfl ?_
        show Steps p.tables e below (T14.setTop (mkF m 67 #[.val (.ref a1), .val (.int p2), .val (.int p3), .val (.int p4)] [(.int p3), (.int (48 : Int32)), (.int (p2 - (4 : Int32))), (.ref a1)])) _
        refine XS.sipush X14.here hx rfl (hb hby d10_67) ?_
        show Steps p.tables e below (T14.setTop (mkF m 70 #[.val (.ref a1), .val (.int p2), .val (.int p3), .val (.int p4)] [(.int (1000 : Int32)), (.int p3), (.int (48 : Int32)), (.int (p2 - (4 : Int32))), (.ref a1)])) _
        refine XS.idiv X14.here hx rfl (hb hby d10_70) rfl (by decide) ?_
        show Steps p.tables e below (T14.setTop (mkF m 71 #[.val (.ref a1), .val (.int p2), .val (.int p3), .val (.int p4)] [(.int (p3 / (1000 : Int32))), (.int (48 : Int32)), (.int (p2 - (4 : Int32))), (.ref a1)])) _
        refine XS.bipush X14.here hx rfl (hb hby d10_71) ?_
        show Steps p.tables e below (T14.setTop (mkF m 73 #[.val (.ref a1), .val (.int p2), .val (.int p3), .val (.int p4)] [(.int (10 : Int32)), (.int (p3 / (1000 : Int32))), (.int (48 : Int32)), (.int (p2 - (4 : Int32))), (.ref a1)])) _
        refine iremM X14 hx rfl (hb hby d10_73) rfl (by decide) ?_
        show Steps p.tables e below (T14.setTop (mkF m 74 #[.val (.ref a1), .val (.int p2), .val (.int p3), .val (.int p4)] [(.int ((p3 / (1000 : Int32)) % (10 : Int32))), (.int (48 : Int32)), (.int (p2 - (4 : Int32))), (.ref a1)])) _
        refine XS.iadd X14.here hx rfl (hb hby d10_74) rfl ?_
        show Steps p.tables e below (T14.setTop (mkF m 75 #[.val (.ref a1), .val (.int p2), .val (.int p3), .val (.int p4)] [(.int ((48 : Int32) + ((p3 / (1000 : Int32)) % (10 : Int32)))), (.int (p2 - (4 : Int32))), (.ref a1)])) _
        refine XS.i2c X14.here hx rfl (hb hby d10_75) rfl ?_
        exact kt
      obtain ⟨cl25, Ar25, q25, S25, M25, H25, G25⟩ := (id V_a1_14)
      have ok26 : own_ok (vs14_0.set ((p2 - (4 : Int32))).toNatClampNeg (.int (nar .char (((48 : Int32) + ((p3 / (1000 : Int32)) % (10 : Int32))).toUInt32.toUInt16.toUInt32.toInt32)))) := own_okset okvs14_0 _ (own_dig (own_divn hp (by decide)))
      have hin25 : ¬ ((p2 - (4 : Int32)) < 0 ∨ cl25.slots.size ≤ ((p2 - (4 : Int32))).toNatClampNeg) := inb_of S25 (own_in (by rw [own_subI rfl (show (4 : Int32).toInt = 4 by decide) (by omega) (by omega) (by omega) (by omega)]; omega))
      obtain ⟨T25, h25, X25, e25, W25, st25⟩ := stC X14 hx hZ e14 Ar25 (j := (p2 - (4 : Int32))) hin25 (g := (mkF m 76 #[.val (.ref a1), .val (.int p2), .val (.int p3), .val (.int p4)] [(.int (((48 : Int32) + ((p3 / (1000 : Int32)) % (10 : Int32))).toUInt32.toUInt16.toUInt32.toInt32)), (.int (p2 - (4 : Int32))), (.ref a1)])) rfl rfl (hb hby d10_76)
      have V_a1_25 := Arv.set Ar25 q25 S25 M25 H25 G25 (fits_nar_char _) W25 ((p2 - (4 : Int32))).toNatClampNeg rfl (own_oklt okvs14_0 (own_in (by rw [own_subI rfl (show (4 : Int32).toInt = 4 by decide) (by omega) (by omega) (by omega) (by omega)]; omega)))
      have N25 := Fr.snoc X25 N14 ge_a1
      have K25 : Keep h0 h25 [a1] := K14.wr W25 (Or.inl (List.mem_of_getElem? (i := 0) rfl))
      have Z25 : n0 ≤ h25.size := Nat.le_trans Z14 (Keep.of_wr W25).1
      have pre25 : ∀ t, Steps p.tables e below (T25.setTop (mkF m 77 #[.val (.ref a1), .val (.int p2), .val (.int p3), .val (.int p4)] [])) t → Steps p.tables e below (s₁.setTop (entryFrame m #[(.ref a1), (.int p2), (.int p3), (.int p4)] 4)) t := fun t kt => pre24 t (st25 _ kt)
      exact ⟨_, _, _, _, X25, e25, N25, K25, Z25, V_a1_25, ok26, (by (try simp only [if_pos hc57]); exact pre25)⟩
    · skip
      have pre28 : ∀ t, Steps p.tables e below (T14.setTop (mkF m 77 #[.val (.ref a1), .val (.int p2), .val (.int p3), .val (.int p4)] [])) t → Steps p.tables e below (s₁.setTop (entryFrame m #[(.ref a1), (.int p2), (.int p3), (.int p4)] 4)) t := by
        intro t kt
        refine pre21 t ?_
        show Steps p.tables e below (T14.setTop (mkF m 57 #[.val (.ref a1), .val (.int p2), .val (.int p3), .val (.int p4)] [(.int (3 : Int32)), (.int p4)])) _
        refine XS.icmpYes X14.here hx rfl (pc0 := 57) (pc' := 77) rfl (hb hby d10_57) rfl (flt hc57).2.2.2 (by decide) (by decide) ?_
        exact kt
      exact ⟨_, _, _, _, X14, e14, N14, K14, Z14, V_a1_14, okvs14_0, (by (try simp only [if_neg hc57]); exact pre28)⟩
  have pre29 : ∀ t, Steps p.tables e below (T22.setTop (mkF m 79 #[.val (.ref a1), .val (.int p2), .val (.int p3), .val (.int p4)] [(.int (4 : Int32)), (.int p4)])) t → Steps p.tables e below (s₁.setTop (entryFrame m #[(.ref a1), (.int p2), (.int p3), (.int p4)] 4)) t := by
    intro t kt
    refine pre22 t ?_
    show Steps p.tables e below (T22.setTop (mkF m 77 #[.val (.ref a1), .val (.int p2), .val (.int p3), .val (.int p4)] [])) _
    refine XS.iloadN X22.here hx rfl (hb hby d10_77) rfl ?_
    show Steps p.tables e below (T22.setTop (mkF m 78 #[.val (.ref a1), .val (.int p2), .val (.int p3), .val (.int p4)] [(.int p4)])) _
    refine XS.iconst X22.here hx rfl (hb hby d10_78) ?_
    exact kt
  obtain ⟨T30, h30, L30, vs30_0, X30, e30, N30, K30, Z30, V_a1_30, okvs30_0, pre30⟩ : ∃ (T' : State) (h' : Heap) (L' : List Loc) (vs30_0 : List Value), Stand p l e ({ frames := 0, cells := 0, slots := 0, locals := 0 } : Room) s m #[(.ref a1), (.int p2), (.int p3), (.int p4)] below meth c T' L' 0 0 ∧ T'.heap = h' ∧ Fr n0 L' ∧ Keep h0 h' [a1] ∧ n0 ≤ h'.size ∧ Arv Z h' a1 kd .char (20 : Int32) vs30_0 (.int (0 : Int32)) ∧ own_ok vs30_0 ∧ ∀ t, Steps p.tables e below (T'.setTop (mkF m 99 #[.val (.ref a1), .val (.int p2), .val (.int p3), .val (.int p4)] [])) t → Steps p.tables e below (s₁.setTop (entryFrame m #[(.ref a1), (.int p2), (.int p3), (.int p4)] 4)) t := by
    by_cases hc79 : (4 : Int32) < p4
    · skip
      have pre31 : ∀ t, Steps p.tables e below (T22.setTop (mkF m 82 #[.val (.ref a1), .val (.int p2), .val (.int p3), .val (.int p4)] [])) t → Steps p.tables e below (s₁.setTop (entryFrame m #[(.ref a1), (.int p2), (.int p3), (.int p4)] 4)) t := by
        intro t kt
        refine pre29 t ?_
        show Steps p.tables e below (T22.setTop (mkF m 79 #[.val (.ref a1), .val (.int p2), .val (.int p3), .val (.int p4)] [(.int (4 : Int32)), (.int p4)])) _
        refine XS.icmpNo X22.here hx rfl (hb hby d10_79) rfl (tlt hc79).2.2.2 ?_
        exact kt
      have pre32 : ∀ t, Steps p.tables e below (T22.setTop (mkF m 98 #[.val (.ref a1), .val (.int p2), .val (.int p3), .val (.int p4)] [(.int (((48 : Int32) + ((p3 / (10000 : Int32)) % (10 : Int32))).toUInt32.toUInt16.toUInt32.toInt32)), (.int (p2 - (5 : Int32))), (.ref a1)])) t → Steps p.tables e below (s₁.setTop (entryFrame m #[(.ref a1), (.int p2), (.int p3), (.int p4)] 4)) t := by
        intro t kt
        refine pre31 t ?_
        show Steps p.tables e below (T22.setTop (mkF m 82 #[.val (.ref a1), .val (.int p2), .val (.int p3), .val (.int p4)] [])) _
        refine XS.aloadN X22.here hx rfl (hb hby d10_82) rfl rfl ?_
        show Steps p.tables e below (T22.setTop (mkF m 83 #[.val (.ref a1), .val (.int p2), .val (.int p3), .val (.int p4)] [(.ref a1)])) _
        refine XS.iloadN X22.here hx rfl (hb hby d10_83) rfl ?_
        show Steps p.tables e below (T22.setTop (mkF m 84 #[.val (.ref a1), .val (.int p2), .val (.int p3), .val (.int p4)] [(.int p2), (.ref a1)])) _
        refine XS.iconst X22.here hx rfl (hb hby d10_84) ?_
        show Steps p.tables e below (T22.setTop (mkF m 85 #[.val (.ref a1), .val (.int p2), .val (.int p3), .val (.int p4)] [(.int (5 : Int32)), (.int p2), (.ref a1)])) _
        refine XS.isub X22.here hx rfl (hb hby d10_85) rfl ?_
        show Steps p.tables e below (T22.setTop (mkF m 86 #[.val (.ref a1), .val (.int p2), .val (.int p3), .val (.int p4)] [(.int (p2 - (5 : Int32))), (.ref a1)])) _
        refine XS.bipush X22.here hx rfl (hb hby d10_86) ?_
        show Steps p.tables e below (T22.setTop (mkF m 88 #[.val (.ref a1), .val (.int p2), .val (.int p3), .val (.int p4)] [(.int (48 : Int32)), (.int (p2 - (5 : Int32))), (.ref a1)])) _
        refine XS.iloadN X22.here hx rfl (hb hby d10_88) rfl ?_
        show Steps p.tables e below (T22.setTop (mkF m 89 #[.val (.ref a1), .val (.int p2), .val (.int p3), .val (.int p4)] [(.int p3), (.int (48 : Int32)), (.int (p2 - (5 : Int32))), (.ref a1)])) _
        refine XS.sipush X22.here hx rfl (hb hby d10_89) ?_
        show Steps p.tables e below (T22.setTop (mkF m 92 #[.val (.ref a1), .val (.int p2), .val (.int p3), .val (.int p4)] [(.int (10000 : Int32)), (.int p3), (.int (48 : Int32)), (.int (p2 - (5 : Int32))), (.ref a1)])) _
        refine XS.idiv X22.here hx rfl (hb hby d10_92) rfl (by decide) ?_
        show Steps p.tables e below (T22.setTop (mkF m 93 #[.val (.ref a1), .val (.int p2), .val (.int p3), .val (.int p4)] [(.int (p3 / (10000 : Int32))), (.int (48 : Int32)), (.int (p2 - (5 : Int32))), (.ref a1)])) _
        refine XS.bipush X22.here hx rfl (hb hby d10_93) ?_
        show Steps p.tables e below (T22.setTop (mkF m 95 #[.val (.ref a1), .val (.int p2), .val (.int p3), .val (.int p4)] [(.int (10 : Int32)), (.int (p3 / (10000 : Int32))), (.int (48 : Int32)), (.int (p2 - (5 : Int32))), (.ref a1)])) _
        refine iremM X22 hx rfl (hb hby d10_95) rfl (by decide) ?_
        show Steps p.tables e below (T22.setTop (mkF m 96 #[.val (.ref a1), .val (.int p2), .val (.int p3), .val (.int p4)] [(.int ((p3 / (10000 : Int32)) % (10 : Int32))), (.int (48 : Int32)), (.int (p2 - (5 : Int32))), (.ref a1)])) _
        refine XS.iadd X22.here hx rfl (hb hby d10_96) rfl ?_
        show Steps p.tables e below (T22.setTop (mkF m 97 #[.val (.ref a1), .val (.int p2), .val (.int p3), .val (.int p4)] [(.int ((48 : Int32) + ((p3 / (10000 : Int32)) % (10 : Int32)))), (.int (p2 - (5 : Int32))), (.ref a1)])) _
        refine XS.i2c X22.here hx rfl (hb hby d10_97) rfl ?_
        exact kt
      obtain ⟨cl33, Ar33, q33, S33, M33, H33, G33⟩ := (id V_a1_22)
      have ok34 : own_ok (vs22_0.set ((p2 - (5 : Int32))).toNatClampNeg (.int (nar .char (((48 : Int32) + ((p3 / (10000 : Int32)) % (10 : Int32))).toUInt32.toUInt16.toUInt32.toInt32)))) := own_okset okvs22_0 _ (own_dig (own_divn hp (by decide)))
      have hin33 : ¬ ((p2 - (5 : Int32)) < 0 ∨ cl33.slots.size ≤ ((p2 - (5 : Int32))).toNatClampNeg) := inb_of S33 (own_in (by rw [own_subI rfl (show (5 : Int32).toInt = 5 by decide) (by omega) (by omega) (by omega) (by omega)]; omega))
      obtain ⟨T33, h33, X33, e33, W33, st33⟩ := stC X22 hx hZ e22 Ar33 (j := (p2 - (5 : Int32))) hin33 (g := (mkF m 98 #[.val (.ref a1), .val (.int p2), .val (.int p3), .val (.int p4)] [(.int (((48 : Int32) + ((p3 / (10000 : Int32)) % (10 : Int32))).toUInt32.toUInt16.toUInt32.toInt32)), (.int (p2 - (5 : Int32))), (.ref a1)])) rfl rfl (hb hby d10_98)
      have V_a1_33 := Arv.set Ar33 q33 S33 M33 H33 G33 (fits_nar_char _) W33 ((p2 - (5 : Int32))).toNatClampNeg rfl (own_oklt okvs22_0 (own_in (by rw [own_subI rfl (show (5 : Int32).toInt = 5 by decide) (by omega) (by omega) (by omega) (by omega)]; omega)))
      have N33 := Fr.snoc X33 N22 ge_a1
      have K33 : Keep h0 h33 [a1] := K22.wr W33 (Or.inl (List.mem_of_getElem? (i := 0) rfl))
      have Z33 : n0 ≤ h33.size := Nat.le_trans Z22 (Keep.of_wr W33).1
      have pre33 : ∀ t, Steps p.tables e below (T33.setTop (mkF m 99 #[.val (.ref a1), .val (.int p2), .val (.int p3), .val (.int p4)] [])) t → Steps p.tables e below (s₁.setTop (entryFrame m #[(.ref a1), (.int p2), (.int p3), (.int p4)] 4)) t := fun t kt => pre32 t (st33 _ kt)
      exact ⟨_, _, _, _, X33, e33, N33, K33, Z33, V_a1_33, ok34, (by (try simp only [if_pos hc79]); exact pre33)⟩
    · skip
      have pre36 : ∀ t, Steps p.tables e below (T22.setTop (mkF m 99 #[.val (.ref a1), .val (.int p2), .val (.int p3), .val (.int p4)] [])) t → Steps p.tables e below (s₁.setTop (entryFrame m #[(.ref a1), (.int p2), (.int p3), (.int p4)] 4)) t := by
        intro t kt
        refine pre29 t ?_
        show Steps p.tables e below (T22.setTop (mkF m 79 #[.val (.ref a1), .val (.int p2), .val (.int p3), .val (.int p4)] [(.int (4 : Int32)), (.int p4)])) _
        refine XS.icmpYes X22.here hx rfl (pc0 := 79) (pc' := 99) rfl (hb hby d10_79) rfl (flt hc79).2.2.2 (by decide) (by decide) ?_
        exact kt
      exact ⟨_, _, _, _, X22, e22, N22, K22, Z22, V_a1_22, okvs22_0, (by (try simp only [if_neg hc79]); exact pre36)⟩
  obtain ⟨fs, hr, hrun, hended, hW, hsame⟩ := X30.leave (v := none) (fun _ => rfl)
  refine ⟨_, _, pre30 _ ?_, hrun, hended, _, _, rfl, ?_, ⟨_, rfl⟩, hW, hsame.mono (by decide) (by decide)⟩
  · show Steps p.tables e below (T30.setTop (mkF m 99 #[.val (.ref a1), .val (.int p2), .val (.int p3), .val (.int p4)] [])) _
    exact X30.returnOut hx Bd.returns (hb hby d10_99) hr
  · show Qrm10 Z a1 p2 p3 p4 kd vs h0 n0 _ T30.heap _
    rw [e30]
    exact ⟨vs30_0, rfl, N30, K30, V_a1_30, okvs30_0⟩
def Qrm7 (Z : State) (a1 : Addr) (a2 : Addr) (p3 : Int32) (p4 : Int32) (p5 : Int32) (p6 : Int32) (p7 : Int32) (p8 : Int32) (p9 : Int32) (p10 : Int32) (h0 : Heap) (n0 : Nat) (v : Option Value) (h : Heap) (L : List Loc) : Prop := v = none ∧ Fr n0 L ∧ Keep h0 h [a1] ∧ Exa Z h a1 "com/example/meyrin/meyrin/Url" ∧ Fld Z h a1 "com/example/meyrin/meyrin/Url" "hostEnd" "I" (.int p6) ∧ Fld Z h a1 "com/example/meyrin/meyrin/Url" "port" "I" (.int p7) ∧ Fld Z h a1 "com/example/meyrin/meyrin/Url" "pathStart" "I" (.int p8)
theorem d7_0 : decode prog_7_method_1_code 0 = .ok (.aload_n 0, 1) := by decide +kernel
theorem d7_1 : decode prog_7_method_1_code 1 = .ok (.invokespecial 1, 3) := by decide +kernel
theorem d7_4 : decode prog_7_method_1_code 4 = .ok (.aload_n 0, 1) := by decide +kernel
theorem d7_5 : decode prog_7_method_1_code 5 = .ok (.aload_n 1, 1) := by decide +kernel
theorem d7_6 : decode prog_7_method_1_code 6 = .ok (.putfield 7, 3) := by decide +kernel
theorem d7_9 : decode prog_7_method_1_code 9 = .ok (.aload_n 0, 1) := by decide +kernel
theorem d7_10 : decode prog_7_method_1_code 10 = .ok (.iload_n 2, 1) := by decide +kernel
theorem d7_11 : decode prog_7_method_1_code 11 = .ok (.putfield 13, 3) := by decide +kernel
theorem d7_14 : decode prog_7_method_1_code 14 = .ok (.aload_n 0, 1) := by decide +kernel
theorem d7_15 : decode prog_7_method_1_code 15 = .ok (.iload_n 3, 1) := by decide +kernel
theorem d7_16 : decode prog_7_method_1_code 16 = .ok (.putfield 17, 3) := by decide +kernel
theorem d7_19 : decode prog_7_method_1_code 19 = .ok (.aload_n 0, 1) := by decide +kernel
theorem d7_20 : decode prog_7_method_1_code 20 = .ok (.iload 4, 2) := by decide +kernel
theorem d7_22 : decode prog_7_method_1_code 22 = .ok (.putfield 20, 3) := by decide +kernel
theorem d7_25 : decode prog_7_method_1_code 25 = .ok (.aload_n 0, 1) := by decide +kernel
theorem d7_26 : decode prog_7_method_1_code 26 = .ok (.iload 5, 2) := by decide +kernel
theorem d7_28 : decode prog_7_method_1_code 28 = .ok (.putfield 23, 3) := by decide +kernel
theorem d7_31 : decode prog_7_method_1_code 31 = .ok (.aload_n 0, 1) := by decide +kernel
theorem d7_32 : decode prog_7_method_1_code 32 = .ok (.iload 6, 2) := by decide +kernel
theorem d7_34 : decode prog_7_method_1_code 34 = .ok (.putfield 26, 3) := by decide +kernel
theorem d7_37 : decode prog_7_method_1_code 37 = .ok (.aload_n 0, 1) := by decide +kernel
theorem d7_38 : decode prog_7_method_1_code 38 = .ok (.iload 7, 2) := by decide +kernel
theorem d7_40 : decode prog_7_method_1_code 40 = .ok (.putfield 29, 3) := by decide +kernel
theorem d7_43 : decode prog_7_method_1_code 43 = .ok (.aload_n 0, 1) := by decide +kernel
theorem d7_44 : decode prog_7_method_1_code 44 = .ok (.iload 8, 2) := by decide +kernel
theorem d7_46 : decode prog_7_method_1_code 46 = .ok (.putfield 32, 3) := by decide +kernel
theorem d7_49 : decode prog_7_method_1_code 49 = .ok (.aload_n 0, 1) := by decide +kernel
theorem d7_50 : decode prog_7_method_1_code 50 = .ok (.iload 9, 2) := by decide +kernel
theorem d7_52 : decode prog_7_method_1_code 52 = .ok (.putfield 35, 3) := by decide +kernel
theorem d7_55 : decode prog_7_method_1_code 55 = .ok (.return_, 1) := by decide +kernel
theorem ef_7 (m : MethodId) (x0 : Addr) (x1 : Addr) (x2 : Int32) (x3 : Int32) (x4 : Int32) (x5 : Int32) (x6 : Int32) (x7 : Int32) (x8 : Int32) (x9 : Int32) : entryFrame m #[(.ref x0), (.ref x1), (.int x2), (.int x3), (.int x4), (.int x5), (.int x6), (.int x7), (.int x8), (.int x9)] 10 = mkF m 0 #[.val (.ref x0), .val (.ref x1), .val (.int x2), .val (.int x3), .val (.int x4), .val (.int x5), .val (.int x6), .val (.int x7), .val (.int x8), .val (.int x9)] [] := by first | (simp [entryFrame, mkF, argsToLocals, Value.category]; done) | rfl
set_option maxRecDepth 65536 in
set_option maxHeartbeats 40000000 in
theorem rm7 (l : Launch) (Z : State) (a0 : Array Value) (hw : ∀ d ∈ tables_1, d.before a0 Z = true) (ws : List Jvm.Cond) (a1 : Addr) (a2 : Addr) (p3 : Int32) (p4 : Int32) (p5 : Int32) (p6 : Int32) (p7 : Int32) (p8 : Int32) (p9 : Int32) (p10 : Int32) (h0 : Heap) (n0 : Nat) (Z0 : n0 ≤ h0.size) (E_a1 : Exa Z h0 a1 "com/example/meyrin/meyrin/Url") (F_href_a1 : Fld Z h0 a1 "com/example/meyrin/meyrin/Url" "href" "Ljava/lang/String;" .null) (F_schemeEnd_a1 : Fld Z h0 a1 "com/example/meyrin/meyrin/Url" "schemeEnd" "I" (.int (0 : Int32))) (F_usernameEnd_a1 : Fld Z h0 a1 "com/example/meyrin/meyrin/Url" "usernameEnd" "I" (.int (0 : Int32))) (F_hostStart_a1 : Fld Z h0 a1 "com/example/meyrin/meyrin/Url" "hostStart" "I" (.int (0 : Int32))) (F_hostEnd_a1 : Fld Z h0 a1 "com/example/meyrin/meyrin/Url" "hostEnd" "I" (.int (0 : Int32))) (F_port_a1 : Fld Z h0 a1 "com/example/meyrin/meyrin/Url" "port" "I" (.int (0 : Int32))) (F_pathStart_a1 : Fld Z h0 a1 "com/example/meyrin/meyrin/Url" "pathStart" "I" (.int (0 : Int32))) (F_pathEnd_a1 : Fld Z h0 a1 "com/example/meyrin/meyrin/Url" "pathEnd" "I" (.int (0 : Int32))) (F_queryEnd_a1 : Fld Z h0 a1 "com/example/meyrin/meyrin/Url" "queryEnd" "I" (.int (0 : Int32))) (ge_a1 : n0 ≤ a1) :
    MetFree l (⟨"com/example/meyrin/meyrin/Url", "<init>", "(Ljava/lang/String;IIIIIIII)V"⟩ : MethodName) (head1 (Jvm.Cond.code (⟨"com/example/meyrin/meyrin/Url", "<init>", "(Ljava/lang/String;IIIIIIII)V"⟩ : MethodName) prog_7_method_1_code 10 none :: ws) ({ frames := 1, cells := 0, slots := 0, locals := 12 } : Room)) (fun a U => a = #[(.ref a1), (.ref a2), (.int p3), (.int p4), (.int p5), (.int p6), (.int p7), (.int p8), (.int p9), (.int p10)] ∧ Z.Warmed39 U.vm ∧ U.heap = h0) (fun _ _ _ _ _ => True) (fun _ U o U' => ∃ v L, o = .returned v ∧ Qrm7 Z a1 a2 p3 p4 p5 p6 p7 p8 p9 p10 h0 n0 v U'.heap L ∧ FrameEnd U o U' L ({ frames := 1, cells := 0, slots := 0, locals := 12 } : Room).cells ({ frames := 1, cells := 0, slots := 0, locals := 12 } : Room).slots) := by
  refine MetFree.of_bodySF (plainFor_of_name pn_1) hisR ?_
  intro p e s m args below meth c s₁ Bd hml0 hP hK
  obtain ⟨rfl, hZ, hh⟩ := hP
  have hx := Bd.exec
  have hby := Bd.bytes
  have hml : c.maxLocals = 10 := hml0
  have hown : s.vm.findClass "com/example/meyrin/meyrin/Url" = some m.cls := findClass_of_methodNamed Bd.named
  have hnm := (name_of_methodNamed Bd.named Bd.method).1
  have X0 : Stand p l e ({ frames := 1, cells := 0, slots := 0, locals := 12 } : Room) s m #[(.ref a1), (.ref a2), (.int p3), (.int p4), (.int p5), (.int p6), (.int p7), (.int p8), (.int p9), (.int p10)] below meth c s₁ [] 0 0 := Stand.of_body Bd
  have e0 : s₁.heap = h0 := by rw [← hh, Bd.state]; rfl
  have N0 := Fr.nil n0
  have pre0 : ∀ t, Steps p.tables e below (s₁.setTop (mkF m 0 #[.val (.ref a1), .val (.ref a2), .val (.int p3), .val (.int p4), .val (.int p5), .val (.int p6), .val (.int p7), .val (.int p8), .val (.int p9), .val (.int p10)] [])) t → Steps p.tables e below (s₁.setTop (entryFrame m #[(.ref a1), (.ref a2), (.int p3), (.int p4), (.int p5), (.int p6), (.int p7), (.int p8), (.int p9), (.int p10)] 10)) t := fun t k => castTop (ef_7 m a1 a2 p3 p4 p5 p6 p7 p8 p9 p10) k
  have pre1 : ∀ t, Steps p.tables e below (s₁.setTop (mkF m 1 #[.val (.ref a1), .val (.ref a2), .val (.int p3), .val (.int p4), .val (.int p5), .val (.int p6), .val (.int p7), .val (.int p8), .val (.int p9), .val (.int p10)] [(.ref a1)])) t → Steps p.tables e below (s₁.setTop (entryFrame m #[(.ref a1), (.ref a2), (.int p3), (.int p4), (.int p5), (.int p6), (.int p7), (.int p8), (.int p9), (.int p10)] 10)) t := by
    intro t kt
    refine pre0 t ?_
    show Steps p.tables e below (s₁.setTop (mkF m 0 #[.val (.ref a1), .val (.ref a2), .val (.int p3), .val (.int p4), .val (.int p5), .val (.int p6), .val (.int p7), .val (.int p8), .val (.int p9), .val (.int p10)] [])) _
    refine XS.aloadN X0.here hx rfl (hb hby d7_0) rfl rfl ?_
    exact kt
  obtain ⟨T2, X2, e2, st2⟩ := initO X0 hx hZ hown (hw _ (List.mem_of_getElem? (i := 36) rfl)) (hw _ (List.mem_of_getElem? (i := 15) rfl)) (hw _ (List.mem_of_getElem? (i := 16) rfl)) e0 (g := (mkF m 1 #[.val (.ref a1), .val (.ref a2), .val (.int p3), .val (.int p4), .val (.int p5), .val (.int p6), .val (.int p7), .val (.int p8), .val (.int p9), .val (.int p10)] [(.ref a1)])) rfl (by rw [hml]; rfl) rfl (hb hby d7_1) (by decide) (W := 0) (by show 2 * 0 + _ ≤ _; exact Nat.le_of_eq rfl) (by decide)
  have pre2 : ∀ t, Steps p.tables e below (T2.setTop (mkF m 4 #[.val (.ref a1), .val (.ref a2), .val (.int p3), .val (.int p4), .val (.int p5), .val (.int p6), .val (.int p7), .val (.int p8), .val (.int p9), .val (.int p10)] [])) t → Steps p.tables e below (s₁.setTop (entryFrame m #[(.ref a1), (.ref a2), (.int p3), (.int p4), (.int p5), (.int p6), (.int p7), (.int p8), (.int p9), (.int p10)] 10)) t := fun t kt => pre1 t (st2 _ kt)
  have pre3 : ∀ t, Steps p.tables e below (T2.setTop (mkF m 6 #[.val (.ref a1), .val (.ref a2), .val (.int p3), .val (.int p4), .val (.int p5), .val (.int p6), .val (.int p7), .val (.int p8), .val (.int p9), .val (.int p10)] [(.ref a2), (.ref a1)])) t → Steps p.tables e below (s₁.setTop (entryFrame m #[(.ref a1), (.ref a2), (.int p3), (.int p4), (.int p5), (.int p6), (.int p7), (.int p8), (.int p9), (.int p10)] 10)) t := by
    intro t kt
    refine pre2 t ?_
    show Steps p.tables e below (T2.setTop (mkF m 4 #[.val (.ref a1), .val (.ref a2), .val (.int p3), .val (.int p4), .val (.int p5), .val (.int p6), .val (.int p7), .val (.int p8), .val (.int p9), .val (.int p10)] [])) _
    refine XS.aloadN X2.here hx rfl (hb hby d7_4) rfl rfl ?_
    show Steps p.tables e below (T2.setTop (mkF m 5 #[.val (.ref a1), .val (.ref a2), .val (.int p3), .val (.int p4), .val (.int p5), .val (.int p6), .val (.int p7), .val (.int p8), .val (.int p9), .val (.int p10)] [(.ref a1)])) _
    refine XS.aloadN X2.here hx rfl (hb hby d7_5) rfl rfl ?_
    exact kt
  obtain ⟨T4, h4, X4, e4, W4, st4⟩ := putF X2 hx hZ hown (host := "") (Or.inl (hw _ (List.mem_of_getElem? (i := 37) rfl))) Via.refl e2 F_href_a1 E_a1 (Or.inr ⟨(hw _ (List.mem_of_getElem? (i := 38) rfl)), rfl, hnm⟩) (hw _ (List.mem_of_getElem? (i := 2) rfl)) (ty := (.object "java/lang/String")) (by decide) rfl rfl (g := (mkF m 6 #[.val (.ref a1), .val (.ref a2), .val (.int p3), .val (.int p4), .val (.int p5), .val (.int p6), .val (.int p7), .val (.int p8), .val (.int p9), .val (.int p10)] [(.ref a2), (.ref a1)])) rfl rfl (hb hby d7_6)
  have N4 := Fr.snoc X4 N0 ge_a1
  have K4 : Keep h0 h4 [a1] := (Keep.refl h0 [a1]).wr W4 (Or.inl (List.mem_of_getElem? (i := 0) rfl))
  have Z4 : n0 ≤ h4.size := Nat.le_trans Z0 (Keep.of_wr W4).1
  have E_a1_5 := E_a1.wr W4
  have F_href_a1_6 := F_href_a1.same W4
  have F_schemeEnd_a1_7 := F_schemeEnd_a1.other W4 (Or.inr (slot_ne (Or.inr (hw _ (List.mem_of_getElem? (i := 40) rfl))) (Or.inr (hw _ (List.mem_of_getElem? (i := 38) rfl))) (by decide) (t := .int) (t' := (.object "java/lang/String")) (by decide) (by decide)))
  have F_usernameEnd_a1_8 := F_usernameEnd_a1.other W4 (Or.inr (slot_ne (Or.inr (hw _ (List.mem_of_getElem? (i := 42) rfl))) (Or.inr (hw _ (List.mem_of_getElem? (i := 38) rfl))) (by decide) (t := .int) (t' := (.object "java/lang/String")) (by decide) (by decide)))
  have F_hostStart_a1_9 := F_hostStart_a1.other W4 (Or.inr (slot_ne (Or.inr (hw _ (List.mem_of_getElem? (i := 44) rfl))) (Or.inr (hw _ (List.mem_of_getElem? (i := 38) rfl))) (by decide) (t := .int) (t' := (.object "java/lang/String")) (by decide) (by decide)))
  have F_hostEnd_a1_10 := F_hostEnd_a1.other W4 (Or.inr (slot_ne (Or.inr (hw _ (List.mem_of_getElem? (i := 46) rfl))) (Or.inr (hw _ (List.mem_of_getElem? (i := 38) rfl))) (by decide) (t := .int) (t' := (.object "java/lang/String")) (by decide) (by decide)))
  have F_port_a1_11 := F_port_a1.other W4 (Or.inr (slot_ne (Or.inr (hw _ (List.mem_of_getElem? (i := 48) rfl))) (Or.inr (hw _ (List.mem_of_getElem? (i := 38) rfl))) (by decide) (t := .int) (t' := (.object "java/lang/String")) (by decide) (by decide)))
  have F_pathStart_a1_12 := F_pathStart_a1.other W4 (Or.inr (slot_ne (Or.inr (hw _ (List.mem_of_getElem? (i := 50) rfl))) (Or.inr (hw _ (List.mem_of_getElem? (i := 38) rfl))) (by decide) (t := .int) (t' := (.object "java/lang/String")) (by decide) (by decide)))
  have F_pathEnd_a1_13 := F_pathEnd_a1.other W4 (Or.inr (slot_ne (Or.inr (hw _ (List.mem_of_getElem? (i := 52) rfl))) (Or.inr (hw _ (List.mem_of_getElem? (i := 38) rfl))) (by decide) (t := .int) (t' := (.object "java/lang/String")) (by decide) (by decide)))
  have F_queryEnd_a1_14 := F_queryEnd_a1.other W4 (Or.inr (slot_ne (Or.inr (hw _ (List.mem_of_getElem? (i := 54) rfl))) (Or.inr (hw _ (List.mem_of_getElem? (i := 38) rfl))) (by decide) (t := .int) (t' := (.object "java/lang/String")) (by decide) (by decide)))
  have pre4 : ∀ t, Steps p.tables e below (T4.setTop (mkF m 9 #[.val (.ref a1), .val (.ref a2), .val (.int p3), .val (.int p4), .val (.int p5), .val (.int p6), .val (.int p7), .val (.int p8), .val (.int p9), .val (.int p10)] [])) t → Steps p.tables e below (s₁.setTop (entryFrame m #[(.ref a1), (.ref a2), (.int p3), (.int p4), (.int p5), (.int p6), (.int p7), (.int p8), (.int p9), (.int p10)] 10)) t := fun t kt => pre3 t (st4 _ kt)
  have pre15 : ∀ t, Steps p.tables e below (T4.setTop (mkF m 11 #[.val (.ref a1), .val (.ref a2), .val (.int p3), .val (.int p4), .val (.int p5), .val (.int p6), .val (.int p7), .val (.int p8), .val (.int p9), .val (.int p10)] [(.int p3), (.ref a1)])) t → Steps p.tables e below (s₁.setTop (entryFrame m #[(.ref a1), (.ref a2), (.int p3), (.int p4), (.int p5), (.int p6), (.int p7), (.int p8), (.int p9), (.int p10)] 10)) t := by
    intro t kt
    refine pre4 t ?_
    show Steps p.tables e below (T4.setTop (mkF m 9 #[.val (.ref a1), .val (.ref a2), .val (.int p3), .val (.int p4), .val (.int p5), .val (.int p6), .val (.int p7), .val (.int p8), .val (.int p9), .val (.int p10)] [])) _
    refine XS.aloadN X4.here hx rfl (hb hby d7_9) rfl rfl ?_
    show Steps p.tables e below (T4.setTop (mkF m 10 #[.val (.ref a1), .val (.ref a2), .val (.int p3), .val (.int p4), .val (.int p5), .val (.int p6), .val (.int p7), .val (.int p8), .val (.int p9), .val (.int p10)] [(.ref a1)])) _
    refine XS.iloadN X4.here hx rfl (hb hby d7_10) rfl ?_
    exact kt
  obtain ⟨T16, h16, X16, e16, W16, st16⟩ := putF X4 hx hZ hown (host := "") (Or.inl (hw _ (List.mem_of_getElem? (i := 39) rfl))) Via.refl e4 F_schemeEnd_a1_7 E_a1_5 (Or.inr ⟨(hw _ (List.mem_of_getElem? (i := 40) rfl)), rfl, hnm⟩) (hw _ (List.mem_of_getElem? (i := 2) rfl)) (ty := .int) (by decide) rfl rfl (g := (mkF m 11 #[.val (.ref a1), .val (.ref a2), .val (.int p3), .val (.int p4), .val (.int p5), .val (.int p6), .val (.int p7), .val (.int p8), .val (.int p9), .val (.int p10)] [(.int p3), (.ref a1)])) rfl rfl (hb hby d7_11)
  have N16 := Fr.snoc X16 N4 ge_a1
  have K16 : Keep h0 h16 [a1] := K4.wr W16 (Or.inl (List.mem_of_getElem? (i := 0) rfl))
  have Z16 : n0 ≤ h16.size := Nat.le_trans Z4 (Keep.of_wr W16).1
  have E_a1_17 := E_a1_5.wr W16
  have F_href_a1_18 := F_href_a1_6.other W16 (Or.inr (slot_ne (Or.inr (hw _ (List.mem_of_getElem? (i := 38) rfl))) (Or.inr (hw _ (List.mem_of_getElem? (i := 40) rfl))) (by decide) (t := (.object "java/lang/String")) (t' := .int) (by decide) (by decide)))
  have F_schemeEnd_a1_19 := F_schemeEnd_a1_7.same W16
  have F_usernameEnd_a1_20 := F_usernameEnd_a1_8.other W16 (Or.inr (slot_ne (Or.inr (hw _ (List.mem_of_getElem? (i := 42) rfl))) (Or.inr (hw _ (List.mem_of_getElem? (i := 40) rfl))) (by decide) (t := .int) (t' := .int) (by decide) (by decide)))
  have F_hostStart_a1_21 := F_hostStart_a1_9.other W16 (Or.inr (slot_ne (Or.inr (hw _ (List.mem_of_getElem? (i := 44) rfl))) (Or.inr (hw _ (List.mem_of_getElem? (i := 40) rfl))) (by decide) (t := .int) (t' := .int) (by decide) (by decide)))
  have F_hostEnd_a1_22 := F_hostEnd_a1_10.other W16 (Or.inr (slot_ne (Or.inr (hw _ (List.mem_of_getElem? (i := 46) rfl))) (Or.inr (hw _ (List.mem_of_getElem? (i := 40) rfl))) (by decide) (t := .int) (t' := .int) (by decide) (by decide)))
  have F_port_a1_23 := F_port_a1_11.other W16 (Or.inr (slot_ne (Or.inr (hw _ (List.mem_of_getElem? (i := 48) rfl))) (Or.inr (hw _ (List.mem_of_getElem? (i := 40) rfl))) (by decide) (t := .int) (t' := .int) (by decide) (by decide)))
  have F_pathStart_a1_24 := F_pathStart_a1_12.other W16 (Or.inr (slot_ne (Or.inr (hw _ (List.mem_of_getElem? (i := 50) rfl))) (Or.inr (hw _ (List.mem_of_getElem? (i := 40) rfl))) (by decide) (t := .int) (t' := .int) (by decide) (by decide)))
  have F_pathEnd_a1_25 := F_pathEnd_a1_13.other W16 (Or.inr (slot_ne (Or.inr (hw _ (List.mem_of_getElem? (i := 52) rfl))) (Or.inr (hw _ (List.mem_of_getElem? (i := 40) rfl))) (by decide) (t := .int) (t' := .int) (by decide) (by decide)))
  have F_queryEnd_a1_26 := F_queryEnd_a1_14.other W16 (Or.inr (slot_ne (Or.inr (hw _ (List.mem_of_getElem? (i := 54) rfl))) (Or.inr (hw _ (List.mem_of_getElem? (i := 40) rfl))) (by decide) (t := .int) (t' := .int) (by decide) (by decide)))
  have pre16 : ∀ t, Steps p.tables e below (T16.setTop (mkF m 14 #[.val (.ref a1), .val (.ref a2), .val (.int p3), .val (.int p4), .val (.int p5), .val (.int p6), .val (.int p7), .val (.int p8), .val (.int p9), .val (.int p10)] [])) t → Steps p.tables e below (s₁.setTop (entryFrame m #[(.ref a1), (.ref a2), (.int p3), (.int p4), (.int p5), (.int p6), (.int p7), (.int p8), (.int p9), (.int p10)] 10)) t := fun t kt => pre15 t (st16 _ kt)
  have pre27 : ∀ t, Steps p.tables e below (T16.setTop (mkF m 16 #[.val (.ref a1), .val (.ref a2), .val (.int p3), .val (.int p4), .val (.int p5), .val (.int p6), .val (.int p7), .val (.int p8), .val (.int p9), .val (.int p10)] [(.int p4), (.ref a1)])) t → Steps p.tables e below (s₁.setTop (entryFrame m #[(.ref a1), (.ref a2), (.int p3), (.int p4), (.int p5), (.int p6), (.int p7), (.int p8), (.int p9), (.int p10)] 10)) t := by
    intro t kt
    refine pre16 t ?_
    show Steps p.tables e below (T16.setTop (mkF m 14 #[.val (.ref a1), .val (.ref a2), .val (.int p3), .val (.int p4), .val (.int p5), .val (.int p6), .val (.int p7), .val (.int p8), .val (.int p9), .val (.int p10)] [])) _
    refine XS.aloadN X16.here hx rfl (hb hby d7_14) rfl rfl ?_
    show Steps p.tables e below (T16.setTop (mkF m 15 #[.val (.ref a1), .val (.ref a2), .val (.int p3), .val (.int p4), .val (.int p5), .val (.int p6), .val (.int p7), .val (.int p8), .val (.int p9), .val (.int p10)] [(.ref a1)])) _
    refine XS.iloadN X16.here hx rfl (hb hby d7_15) rfl ?_
    exact kt
  obtain ⟨T28, h28, X28, e28, W28, st28⟩ := putF X16 hx hZ hown (host := "") (Or.inl (hw _ (List.mem_of_getElem? (i := 41) rfl))) Via.refl e16 F_usernameEnd_a1_20 E_a1_17 (Or.inr ⟨(hw _ (List.mem_of_getElem? (i := 42) rfl)), rfl, hnm⟩) (hw _ (List.mem_of_getElem? (i := 2) rfl)) (ty := .int) (by decide) rfl rfl (g := (mkF m 16 #[.val (.ref a1), .val (.ref a2), .val (.int p3), .val (.int p4), .val (.int p5), .val (.int p6), .val (.int p7), .val (.int p8), .val (.int p9), .val (.int p10)] [(.int p4), (.ref a1)])) rfl rfl (hb hby d7_16)
  have N28 := Fr.snoc X28 N16 ge_a1
  have K28 : Keep h0 h28 [a1] := K16.wr W28 (Or.inl (List.mem_of_getElem? (i := 0) rfl))
  have Z28 : n0 ≤ h28.size := Nat.le_trans Z16 (Keep.of_wr W28).1
  have E_a1_29 := E_a1_17.wr W28
  have F_href_a1_30 := F_href_a1_18.other W28 (Or.inr (slot_ne (Or.inr (hw _ (List.mem_of_getElem? (i := 38) rfl))) (Or.inr (hw _ (List.mem_of_getElem? (i := 42) rfl))) (by decide) (t := (.object "java/lang/String")) (t' := .int) (by decide) (by decide)))
  have F_schemeEnd_a1_31 := F_schemeEnd_a1_19.other W28 (Or.inr (slot_ne (Or.inr (hw _ (List.mem_of_getElem? (i := 40) rfl))) (Or.inr (hw _ (List.mem_of_getElem? (i := 42) rfl))) (by decide) (t := .int) (t' := .int) (by decide) (by decide)))
  have F_usernameEnd_a1_32 := F_usernameEnd_a1_20.same W28
  have F_hostStart_a1_33 := F_hostStart_a1_21.other W28 (Or.inr (slot_ne (Or.inr (hw _ (List.mem_of_getElem? (i := 44) rfl))) (Or.inr (hw _ (List.mem_of_getElem? (i := 42) rfl))) (by decide) (t := .int) (t' := .int) (by decide) (by decide)))
  have F_hostEnd_a1_34 := F_hostEnd_a1_22.other W28 (Or.inr (slot_ne (Or.inr (hw _ (List.mem_of_getElem? (i := 46) rfl))) (Or.inr (hw _ (List.mem_of_getElem? (i := 42) rfl))) (by decide) (t := .int) (t' := .int) (by decide) (by decide)))
  have F_port_a1_35 := F_port_a1_23.other W28 (Or.inr (slot_ne (Or.inr (hw _ (List.mem_of_getElem? (i := 48) rfl))) (Or.inr (hw _ (List.mem_of_getElem? (i := 42) rfl))) (by decide) (t := .int) (t' := .int) (by decide) (by decide)))
  have F_pathStart_a1_36 := F_pathStart_a1_24.other W28 (Or.inr (slot_ne (Or.inr (hw _ (List.mem_of_getElem? (i := 50) rfl))) (Or.inr (hw _ (List.mem_of_getElem? (i := 42) rfl))) (by decide) (t := .int) (t' := .int) (by decide) (by decide)))
  have F_pathEnd_a1_37 := F_pathEnd_a1_25.other W28 (Or.inr (slot_ne (Or.inr (hw _ (List.mem_of_getElem? (i := 52) rfl))) (Or.inr (hw _ (List.mem_of_getElem? (i := 42) rfl))) (by decide) (t := .int) (t' := .int) (by decide) (by decide)))
  have F_queryEnd_a1_38 := F_queryEnd_a1_26.other W28 (Or.inr (slot_ne (Or.inr (hw _ (List.mem_of_getElem? (i := 54) rfl))) (Or.inr (hw _ (List.mem_of_getElem? (i := 42) rfl))) (by decide) (t := .int) (t' := .int) (by decide) (by decide)))
  have pre28 : ∀ t, Steps p.tables e below (T28.setTop (mkF m 19 #[.val (.ref a1), .val (.ref a2), .val (.int p3), .val (.int p4), .val (.int p5), .val (.int p6), .val (.int p7), .val (.int p8), .val (.int p9), .val (.int p10)] [])) t → Steps p.tables e below (s₁.setTop (entryFrame m #[(.ref a1), (.ref a2), (.int p3), (.int p4), (.int p5), (.int p6), (.int p7), (.int p8), (.int p9), (.int p10)] 10)) t := fun t kt => pre27 t (st28 _ kt)
  have pre39 : ∀ t, Steps p.tables e below (T28.setTop (mkF m 22 #[.val (.ref a1), .val (.ref a2), .val (.int p3), .val (.int p4), .val (.int p5), .val (.int p6), .val (.int p7), .val (.int p8), .val (.int p9), .val (.int p10)] [(.int p5), (.ref a1)])) t → Steps p.tables e below (s₁.setTop (entryFrame m #[(.ref a1), (.ref a2), (.int p3), (.int p4), (.int p5), (.int p6), (.int p7), (.int p8), (.int p9), (.int p10)] 10)) t := by
    intro t kt
    refine pre28 t ?_
    show Steps p.tables e below (T28.setTop (mkF m 19 #[.val (.ref a1), .val (.ref a2), .val (.int p3), .val (.int p4), .val (.int p5), .val (.int p6), .val (.int p7), .val (.int p8), .val (.int p9), .val (.int p10)] [])) _
    refine XS.aloadN X28.here hx rfl (hb hby d7_19) rfl rfl ?_
    show Steps p.tables e below (T28.setTop (mkF m 20 #[.val (.ref a1), .val (.ref a2), .val (.int p3), .val (.int p4), .val (.int p5), .val (.int p6), .val (.int p7), .val (.int p8), .val (.int p9), .val (.int p10)] [(.ref a1)])) _
    refine XS.iload X28.here hx rfl (hb hby d7_20) rfl ?_
    exact kt
  obtain ⟨T40, h40, X40, e40, W40, st40⟩ := putF X28 hx hZ hown (host := "") (Or.inl (hw _ (List.mem_of_getElem? (i := 43) rfl))) Via.refl e28 F_hostStart_a1_33 E_a1_29 (Or.inr ⟨(hw _ (List.mem_of_getElem? (i := 44) rfl)), rfl, hnm⟩) (hw _ (List.mem_of_getElem? (i := 2) rfl)) (ty := .int) (by decide) rfl rfl (g := (mkF m 22 #[.val (.ref a1), .val (.ref a2), .val (.int p3), .val (.int p4), .val (.int p5), .val (.int p6), .val (.int p7), .val (.int p8), .val (.int p9), .val (.int p10)] [(.int p5), (.ref a1)])) rfl rfl (hb hby d7_22)
  have N40 := Fr.snoc X40 N28 ge_a1
  have K40 : Keep h0 h40 [a1] := K28.wr W40 (Or.inl (List.mem_of_getElem? (i := 0) rfl))
  have Z40 : n0 ≤ h40.size := Nat.le_trans Z28 (Keep.of_wr W40).1
  have E_a1_41 := E_a1_29.wr W40
  have F_href_a1_42 := F_href_a1_30.other W40 (Or.inr (slot_ne (Or.inr (hw _ (List.mem_of_getElem? (i := 38) rfl))) (Or.inr (hw _ (List.mem_of_getElem? (i := 44) rfl))) (by decide) (t := (.object "java/lang/String")) (t' := .int) (by decide) (by decide)))
  have F_schemeEnd_a1_43 := F_schemeEnd_a1_31.other W40 (Or.inr (slot_ne (Or.inr (hw _ (List.mem_of_getElem? (i := 40) rfl))) (Or.inr (hw _ (List.mem_of_getElem? (i := 44) rfl))) (by decide) (t := .int) (t' := .int) (by decide) (by decide)))
  have F_usernameEnd_a1_44 := F_usernameEnd_a1_32.other W40 (Or.inr (slot_ne (Or.inr (hw _ (List.mem_of_getElem? (i := 42) rfl))) (Or.inr (hw _ (List.mem_of_getElem? (i := 44) rfl))) (by decide) (t := .int) (t' := .int) (by decide) (by decide)))
  have F_hostStart_a1_45 := F_hostStart_a1_33.same W40
  have F_hostEnd_a1_46 := F_hostEnd_a1_34.other W40 (Or.inr (slot_ne (Or.inr (hw _ (List.mem_of_getElem? (i := 46) rfl))) (Or.inr (hw _ (List.mem_of_getElem? (i := 44) rfl))) (by decide) (t := .int) (t' := .int) (by decide) (by decide)))
  have F_port_a1_47 := F_port_a1_35.other W40 (Or.inr (slot_ne (Or.inr (hw _ (List.mem_of_getElem? (i := 48) rfl))) (Or.inr (hw _ (List.mem_of_getElem? (i := 44) rfl))) (by decide) (t := .int) (t' := .int) (by decide) (by decide)))
  have F_pathStart_a1_48 := F_pathStart_a1_36.other W40 (Or.inr (slot_ne (Or.inr (hw _ (List.mem_of_getElem? (i := 50) rfl))) (Or.inr (hw _ (List.mem_of_getElem? (i := 44) rfl))) (by decide) (t := .int) (t' := .int) (by decide) (by decide)))
  have F_pathEnd_a1_49 := F_pathEnd_a1_37.other W40 (Or.inr (slot_ne (Or.inr (hw _ (List.mem_of_getElem? (i := 52) rfl))) (Or.inr (hw _ (List.mem_of_getElem? (i := 44) rfl))) (by decide) (t := .int) (t' := .int) (by decide) (by decide)))
  have F_queryEnd_a1_50 := F_queryEnd_a1_38.other W40 (Or.inr (slot_ne (Or.inr (hw _ (List.mem_of_getElem? (i := 54) rfl))) (Or.inr (hw _ (List.mem_of_getElem? (i := 44) rfl))) (by decide) (t := .int) (t' := .int) (by decide) (by decide)))
  have pre40 : ∀ t, Steps p.tables e below (T40.setTop (mkF m 25 #[.val (.ref a1), .val (.ref a2), .val (.int p3), .val (.int p4), .val (.int p5), .val (.int p6), .val (.int p7), .val (.int p8), .val (.int p9), .val (.int p10)] [])) t → Steps p.tables e below (s₁.setTop (entryFrame m #[(.ref a1), (.ref a2), (.int p3), (.int p4), (.int p5), (.int p6), (.int p7), (.int p8), (.int p9), (.int p10)] 10)) t := fun t kt => pre39 t (st40 _ kt)
  have pre51 : ∀ t, Steps p.tables e below (T40.setTop (mkF m 28 #[.val (.ref a1), .val (.ref a2), .val (.int p3), .val (.int p4), .val (.int p5), .val (.int p6), .val (.int p7), .val (.int p8), .val (.int p9), .val (.int p10)] [(.int p6), (.ref a1)])) t → Steps p.tables e below (s₁.setTop (entryFrame m #[(.ref a1), (.ref a2), (.int p3), (.int p4), (.int p5), (.int p6), (.int p7), (.int p8), (.int p9), (.int p10)] 10)) t := by
    intro t kt
    refine pre40 t ?_
    show Steps p.tables e below (T40.setTop (mkF m 25 #[.val (.ref a1), .val (.ref a2), .val (.int p3), .val (.int p4), .val (.int p5), .val (.int p6), .val (.int p7), .val (.int p8), .val (.int p9), .val (.int p10)] [])) _
    refine XS.aloadN X40.here hx rfl (hb hby d7_25) rfl rfl ?_
    show Steps p.tables e below (T40.setTop (mkF m 26 #[.val (.ref a1), .val (.ref a2), .val (.int p3), .val (.int p4), .val (.int p5), .val (.int p6), .val (.int p7), .val (.int p8), .val (.int p9), .val (.int p10)] [(.ref a1)])) _
    refine XS.iload X40.here hx rfl (hb hby d7_26) rfl ?_
    exact kt
  obtain ⟨T52, h52, X52, e52, W52, st52⟩ := putF X40 hx hZ hown (host := "") (Or.inl (hw _ (List.mem_of_getElem? (i := 45) rfl))) Via.refl e40 F_hostEnd_a1_46 E_a1_41 (Or.inr ⟨(hw _ (List.mem_of_getElem? (i := 46) rfl)), rfl, hnm⟩) (hw _ (List.mem_of_getElem? (i := 2) rfl)) (ty := .int) (by decide) rfl rfl (g := (mkF m 28 #[.val (.ref a1), .val (.ref a2), .val (.int p3), .val (.int p4), .val (.int p5), .val (.int p6), .val (.int p7), .val (.int p8), .val (.int p9), .val (.int p10)] [(.int p6), (.ref a1)])) rfl rfl (hb hby d7_28)
  have N52 := Fr.snoc X52 N40 ge_a1
  have K52 : Keep h0 h52 [a1] := K40.wr W52 (Or.inl (List.mem_of_getElem? (i := 0) rfl))
  have Z52 : n0 ≤ h52.size := Nat.le_trans Z40 (Keep.of_wr W52).1
  have E_a1_53 := E_a1_41.wr W52
  have F_href_a1_54 := F_href_a1_42.other W52 (Or.inr (slot_ne (Or.inr (hw _ (List.mem_of_getElem? (i := 38) rfl))) (Or.inr (hw _ (List.mem_of_getElem? (i := 46) rfl))) (by decide) (t := (.object "java/lang/String")) (t' := .int) (by decide) (by decide)))
  have F_schemeEnd_a1_55 := F_schemeEnd_a1_43.other W52 (Or.inr (slot_ne (Or.inr (hw _ (List.mem_of_getElem? (i := 40) rfl))) (Or.inr (hw _ (List.mem_of_getElem? (i := 46) rfl))) (by decide) (t := .int) (t' := .int) (by decide) (by decide)))
  have F_usernameEnd_a1_56 := F_usernameEnd_a1_44.other W52 (Or.inr (slot_ne (Or.inr (hw _ (List.mem_of_getElem? (i := 42) rfl))) (Or.inr (hw _ (List.mem_of_getElem? (i := 46) rfl))) (by decide) (t := .int) (t' := .int) (by decide) (by decide)))
  have F_hostStart_a1_57 := F_hostStart_a1_45.other W52 (Or.inr (slot_ne (Or.inr (hw _ (List.mem_of_getElem? (i := 44) rfl))) (Or.inr (hw _ (List.mem_of_getElem? (i := 46) rfl))) (by decide) (t := .int) (t' := .int) (by decide) (by decide)))
  have F_hostEnd_a1_58 := F_hostEnd_a1_46.same W52
  have F_port_a1_59 := F_port_a1_47.other W52 (Or.inr (slot_ne (Or.inr (hw _ (List.mem_of_getElem? (i := 48) rfl))) (Or.inr (hw _ (List.mem_of_getElem? (i := 46) rfl))) (by decide) (t := .int) (t' := .int) (by decide) (by decide)))
  have F_pathStart_a1_60 := F_pathStart_a1_48.other W52 (Or.inr (slot_ne (Or.inr (hw _ (List.mem_of_getElem? (i := 50) rfl))) (Or.inr (hw _ (List.mem_of_getElem? (i := 46) rfl))) (by decide) (t := .int) (t' := .int) (by decide) (by decide)))
  have F_pathEnd_a1_61 := F_pathEnd_a1_49.other W52 (Or.inr (slot_ne (Or.inr (hw _ (List.mem_of_getElem? (i := 52) rfl))) (Or.inr (hw _ (List.mem_of_getElem? (i := 46) rfl))) (by decide) (t := .int) (t' := .int) (by decide) (by decide)))
  have F_queryEnd_a1_62 := F_queryEnd_a1_50.other W52 (Or.inr (slot_ne (Or.inr (hw _ (List.mem_of_getElem? (i := 54) rfl))) (Or.inr (hw _ (List.mem_of_getElem? (i := 46) rfl))) (by decide) (t := .int) (t' := .int) (by decide) (by decide)))
  have pre52 : ∀ t, Steps p.tables e below (T52.setTop (mkF m 31 #[.val (.ref a1), .val (.ref a2), .val (.int p3), .val (.int p4), .val (.int p5), .val (.int p6), .val (.int p7), .val (.int p8), .val (.int p9), .val (.int p10)] [])) t → Steps p.tables e below (s₁.setTop (entryFrame m #[(.ref a1), (.ref a2), (.int p3), (.int p4), (.int p5), (.int p6), (.int p7), (.int p8), (.int p9), (.int p10)] 10)) t := fun t kt => pre51 t (st52 _ kt)
  have pre63 : ∀ t, Steps p.tables e below (T52.setTop (mkF m 34 #[.val (.ref a1), .val (.ref a2), .val (.int p3), .val (.int p4), .val (.int p5), .val (.int p6), .val (.int p7), .val (.int p8), .val (.int p9), .val (.int p10)] [(.int p7), (.ref a1)])) t → Steps p.tables e below (s₁.setTop (entryFrame m #[(.ref a1), (.ref a2), (.int p3), (.int p4), (.int p5), (.int p6), (.int p7), (.int p8), (.int p9), (.int p10)] 10)) t := by
    intro t kt
    refine pre52 t ?_
    show Steps p.tables e below (T52.setTop (mkF m 31 #[.val (.ref a1), .val (.ref a2), .val (.int p3), .val (.int p4), .val (.int p5), .val (.int p6), .val (.int p7), .val (.int p8), .val (.int p9), .val (.int p10)] [])) _
    refine XS.aloadN X52.here hx rfl (hb hby d7_31) rfl rfl ?_
    show Steps p.tables e below (T52.setTop (mkF m 32 #[.val (.ref a1), .val (.ref a2), .val (.int p3), .val (.int p4), .val (.int p5), .val (.int p6), .val (.int p7), .val (.int p8), .val (.int p9), .val (.int p10)] [(.ref a1)])) _
    refine XS.iload X52.here hx rfl (hb hby d7_32) rfl ?_
    exact kt
  obtain ⟨T64, h64, X64, e64, W64, st64⟩ := putF X52 hx hZ hown (host := "") (Or.inl (hw _ (List.mem_of_getElem? (i := 47) rfl))) Via.refl e52 F_port_a1_59 E_a1_53 (Or.inr ⟨(hw _ (List.mem_of_getElem? (i := 48) rfl)), rfl, hnm⟩) (hw _ (List.mem_of_getElem? (i := 2) rfl)) (ty := .int) (by decide) rfl rfl (g := (mkF m 34 #[.val (.ref a1), .val (.ref a2), .val (.int p3), .val (.int p4), .val (.int p5), .val (.int p6), .val (.int p7), .val (.int p8), .val (.int p9), .val (.int p10)] [(.int p7), (.ref a1)])) rfl rfl (hb hby d7_34)
  have N64 := Fr.snoc X64 N52 ge_a1
  have K64 : Keep h0 h64 [a1] := K52.wr W64 (Or.inl (List.mem_of_getElem? (i := 0) rfl))
  have Z64 : n0 ≤ h64.size := Nat.le_trans Z52 (Keep.of_wr W64).1
  have E_a1_65 := E_a1_53.wr W64
  have F_href_a1_66 := F_href_a1_54.other W64 (Or.inr (slot_ne (Or.inr (hw _ (List.mem_of_getElem? (i := 38) rfl))) (Or.inr (hw _ (List.mem_of_getElem? (i := 48) rfl))) (by decide) (t := (.object "java/lang/String")) (t' := .int) (by decide) (by decide)))
  have F_schemeEnd_a1_67 := F_schemeEnd_a1_55.other W64 (Or.inr (slot_ne (Or.inr (hw _ (List.mem_of_getElem? (i := 40) rfl))) (Or.inr (hw _ (List.mem_of_getElem? (i := 48) rfl))) (by decide) (t := .int) (t' := .int) (by decide) (by decide)))
  have F_usernameEnd_a1_68 := F_usernameEnd_a1_56.other W64 (Or.inr (slot_ne (Or.inr (hw _ (List.mem_of_getElem? (i := 42) rfl))) (Or.inr (hw _ (List.mem_of_getElem? (i := 48) rfl))) (by decide) (t := .int) (t' := .int) (by decide) (by decide)))
  have F_hostStart_a1_69 := F_hostStart_a1_57.other W64 (Or.inr (slot_ne (Or.inr (hw _ (List.mem_of_getElem? (i := 44) rfl))) (Or.inr (hw _ (List.mem_of_getElem? (i := 48) rfl))) (by decide) (t := .int) (t' := .int) (by decide) (by decide)))
  have F_hostEnd_a1_70 := F_hostEnd_a1_58.other W64 (Or.inr (slot_ne (Or.inr (hw _ (List.mem_of_getElem? (i := 46) rfl))) (Or.inr (hw _ (List.mem_of_getElem? (i := 48) rfl))) (by decide) (t := .int) (t' := .int) (by decide) (by decide)))
  have F_port_a1_71 := F_port_a1_59.same W64
  have F_pathStart_a1_72 := F_pathStart_a1_60.other W64 (Or.inr (slot_ne (Or.inr (hw _ (List.mem_of_getElem? (i := 50) rfl))) (Or.inr (hw _ (List.mem_of_getElem? (i := 48) rfl))) (by decide) (t := .int) (t' := .int) (by decide) (by decide)))
  have F_pathEnd_a1_73 := F_pathEnd_a1_61.other W64 (Or.inr (slot_ne (Or.inr (hw _ (List.mem_of_getElem? (i := 52) rfl))) (Or.inr (hw _ (List.mem_of_getElem? (i := 48) rfl))) (by decide) (t := .int) (t' := .int) (by decide) (by decide)))
  have F_queryEnd_a1_74 := F_queryEnd_a1_62.other W64 (Or.inr (slot_ne (Or.inr (hw _ (List.mem_of_getElem? (i := 54) rfl))) (Or.inr (hw _ (List.mem_of_getElem? (i := 48) rfl))) (by decide) (t := .int) (t' := .int) (by decide) (by decide)))
  have pre64 : ∀ t, Steps p.tables e below (T64.setTop (mkF m 37 #[.val (.ref a1), .val (.ref a2), .val (.int p3), .val (.int p4), .val (.int p5), .val (.int p6), .val (.int p7), .val (.int p8), .val (.int p9), .val (.int p10)] [])) t → Steps p.tables e below (s₁.setTop (entryFrame m #[(.ref a1), (.ref a2), (.int p3), (.int p4), (.int p5), (.int p6), (.int p7), (.int p8), (.int p9), (.int p10)] 10)) t := fun t kt => pre63 t (st64 _ kt)
  have pre75 : ∀ t, Steps p.tables e below (T64.setTop (mkF m 40 #[.val (.ref a1), .val (.ref a2), .val (.int p3), .val (.int p4), .val (.int p5), .val (.int p6), .val (.int p7), .val (.int p8), .val (.int p9), .val (.int p10)] [(.int p8), (.ref a1)])) t → Steps p.tables e below (s₁.setTop (entryFrame m #[(.ref a1), (.ref a2), (.int p3), (.int p4), (.int p5), (.int p6), (.int p7), (.int p8), (.int p9), (.int p10)] 10)) t := by
    intro t kt
    refine pre64 t ?_
    show Steps p.tables e below (T64.setTop (mkF m 37 #[.val (.ref a1), .val (.ref a2), .val (.int p3), .val (.int p4), .val (.int p5), .val (.int p6), .val (.int p7), .val (.int p8), .val (.int p9), .val (.int p10)] [])) _
    refine XS.aloadN X64.here hx rfl (hb hby d7_37) rfl rfl ?_
    show Steps p.tables e below (T64.setTop (mkF m 38 #[.val (.ref a1), .val (.ref a2), .val (.int p3), .val (.int p4), .val (.int p5), .val (.int p6), .val (.int p7), .val (.int p8), .val (.int p9), .val (.int p10)] [(.ref a1)])) _
    refine XS.iload X64.here hx rfl (hb hby d7_38) rfl ?_
    exact kt
  obtain ⟨T76, h76, X76, e76, W76, st76⟩ := putF X64 hx hZ hown (host := "") (Or.inl (hw _ (List.mem_of_getElem? (i := 49) rfl))) Via.refl e64 F_pathStart_a1_72 E_a1_65 (Or.inr ⟨(hw _ (List.mem_of_getElem? (i := 50) rfl)), rfl, hnm⟩) (hw _ (List.mem_of_getElem? (i := 2) rfl)) (ty := .int) (by decide) rfl rfl (g := (mkF m 40 #[.val (.ref a1), .val (.ref a2), .val (.int p3), .val (.int p4), .val (.int p5), .val (.int p6), .val (.int p7), .val (.int p8), .val (.int p9), .val (.int p10)] [(.int p8), (.ref a1)])) rfl rfl (hb hby d7_40)
  have N76 := Fr.snoc X76 N64 ge_a1
  have K76 : Keep h0 h76 [a1] := K64.wr W76 (Or.inl (List.mem_of_getElem? (i := 0) rfl))
  have Z76 : n0 ≤ h76.size := Nat.le_trans Z64 (Keep.of_wr W76).1
  have E_a1_77 := E_a1_65.wr W76
  have F_href_a1_78 := F_href_a1_66.other W76 (Or.inr (slot_ne (Or.inr (hw _ (List.mem_of_getElem? (i := 38) rfl))) (Or.inr (hw _ (List.mem_of_getElem? (i := 50) rfl))) (by decide) (t := (.object "java/lang/String")) (t' := .int) (by decide) (by decide)))
  have F_schemeEnd_a1_79 := F_schemeEnd_a1_67.other W76 (Or.inr (slot_ne (Or.inr (hw _ (List.mem_of_getElem? (i := 40) rfl))) (Or.inr (hw _ (List.mem_of_getElem? (i := 50) rfl))) (by decide) (t := .int) (t' := .int) (by decide) (by decide)))
  have F_usernameEnd_a1_80 := F_usernameEnd_a1_68.other W76 (Or.inr (slot_ne (Or.inr (hw _ (List.mem_of_getElem? (i := 42) rfl))) (Or.inr (hw _ (List.mem_of_getElem? (i := 50) rfl))) (by decide) (t := .int) (t' := .int) (by decide) (by decide)))
  have F_hostStart_a1_81 := F_hostStart_a1_69.other W76 (Or.inr (slot_ne (Or.inr (hw _ (List.mem_of_getElem? (i := 44) rfl))) (Or.inr (hw _ (List.mem_of_getElem? (i := 50) rfl))) (by decide) (t := .int) (t' := .int) (by decide) (by decide)))
  have F_hostEnd_a1_82 := F_hostEnd_a1_70.other W76 (Or.inr (slot_ne (Or.inr (hw _ (List.mem_of_getElem? (i := 46) rfl))) (Or.inr (hw _ (List.mem_of_getElem? (i := 50) rfl))) (by decide) (t := .int) (t' := .int) (by decide) (by decide)))
  have F_port_a1_83 := F_port_a1_71.other W76 (Or.inr (slot_ne (Or.inr (hw _ (List.mem_of_getElem? (i := 48) rfl))) (Or.inr (hw _ (List.mem_of_getElem? (i := 50) rfl))) (by decide) (t := .int) (t' := .int) (by decide) (by decide)))
  have F_pathStart_a1_84 := F_pathStart_a1_72.same W76
  have F_pathEnd_a1_85 := F_pathEnd_a1_73.other W76 (Or.inr (slot_ne (Or.inr (hw _ (List.mem_of_getElem? (i := 52) rfl))) (Or.inr (hw _ (List.mem_of_getElem? (i := 50) rfl))) (by decide) (t := .int) (t' := .int) (by decide) (by decide)))
  have F_queryEnd_a1_86 := F_queryEnd_a1_74.other W76 (Or.inr (slot_ne (Or.inr (hw _ (List.mem_of_getElem? (i := 54) rfl))) (Or.inr (hw _ (List.mem_of_getElem? (i := 50) rfl))) (by decide) (t := .int) (t' := .int) (by decide) (by decide)))
  have pre76 : ∀ t, Steps p.tables e below (T76.setTop (mkF m 43 #[.val (.ref a1), .val (.ref a2), .val (.int p3), .val (.int p4), .val (.int p5), .val (.int p6), .val (.int p7), .val (.int p8), .val (.int p9), .val (.int p10)] [])) t → Steps p.tables e below (s₁.setTop (entryFrame m #[(.ref a1), (.ref a2), (.int p3), (.int p4), (.int p5), (.int p6), (.int p7), (.int p8), (.int p9), (.int p10)] 10)) t := fun t kt => pre75 t (st76 _ kt)
  have pre87 : ∀ t, Steps p.tables e below (T76.setTop (mkF m 46 #[.val (.ref a1), .val (.ref a2), .val (.int p3), .val (.int p4), .val (.int p5), .val (.int p6), .val (.int p7), .val (.int p8), .val (.int p9), .val (.int p10)] [(.int p9), (.ref a1)])) t → Steps p.tables e below (s₁.setTop (entryFrame m #[(.ref a1), (.ref a2), (.int p3), (.int p4), (.int p5), (.int p6), (.int p7), (.int p8), (.int p9), (.int p10)] 10)) t := by
    intro t kt
    refine pre76 t ?_
    show Steps p.tables e below (T76.setTop (mkF m 43 #[.val (.ref a1), .val (.ref a2), .val (.int p3), .val (.int p4), .val (.int p5), .val (.int p6), .val (.int p7), .val (.int p8), .val (.int p9), .val (.int p10)] [])) _
    refine XS.aloadN X76.here hx rfl (hb hby d7_43) rfl rfl ?_
    show Steps p.tables e below (T76.setTop (mkF m 44 #[.val (.ref a1), .val (.ref a2), .val (.int p3), .val (.int p4), .val (.int p5), .val (.int p6), .val (.int p7), .val (.int p8), .val (.int p9), .val (.int p10)] [(.ref a1)])) _
    refine XS.iload X76.here hx rfl (hb hby d7_44) rfl ?_
    exact kt
  obtain ⟨T88, h88, X88, e88, W88, st88⟩ := putF X76 hx hZ hown (host := "") (Or.inl (hw _ (List.mem_of_getElem? (i := 51) rfl))) Via.refl e76 F_pathEnd_a1_85 E_a1_77 (Or.inr ⟨(hw _ (List.mem_of_getElem? (i := 52) rfl)), rfl, hnm⟩) (hw _ (List.mem_of_getElem? (i := 2) rfl)) (ty := .int) (by decide) rfl rfl (g := (mkF m 46 #[.val (.ref a1), .val (.ref a2), .val (.int p3), .val (.int p4), .val (.int p5), .val (.int p6), .val (.int p7), .val (.int p8), .val (.int p9), .val (.int p10)] [(.int p9), (.ref a1)])) rfl rfl (hb hby d7_46)
  have N88 := Fr.snoc X88 N76 ge_a1
  have K88 : Keep h0 h88 [a1] := K76.wr W88 (Or.inl (List.mem_of_getElem? (i := 0) rfl))
  have Z88 : n0 ≤ h88.size := Nat.le_trans Z76 (Keep.of_wr W88).1
  have E_a1_89 := E_a1_77.wr W88
  have F_href_a1_90 := F_href_a1_78.other W88 (Or.inr (slot_ne (Or.inr (hw _ (List.mem_of_getElem? (i := 38) rfl))) (Or.inr (hw _ (List.mem_of_getElem? (i := 52) rfl))) (by decide) (t := (.object "java/lang/String")) (t' := .int) (by decide) (by decide)))
  have F_schemeEnd_a1_91 := F_schemeEnd_a1_79.other W88 (Or.inr (slot_ne (Or.inr (hw _ (List.mem_of_getElem? (i := 40) rfl))) (Or.inr (hw _ (List.mem_of_getElem? (i := 52) rfl))) (by decide) (t := .int) (t' := .int) (by decide) (by decide)))
  have F_usernameEnd_a1_92 := F_usernameEnd_a1_80.other W88 (Or.inr (slot_ne (Or.inr (hw _ (List.mem_of_getElem? (i := 42) rfl))) (Or.inr (hw _ (List.mem_of_getElem? (i := 52) rfl))) (by decide) (t := .int) (t' := .int) (by decide) (by decide)))
  have F_hostStart_a1_93 := F_hostStart_a1_81.other W88 (Or.inr (slot_ne (Or.inr (hw _ (List.mem_of_getElem? (i := 44) rfl))) (Or.inr (hw _ (List.mem_of_getElem? (i := 52) rfl))) (by decide) (t := .int) (t' := .int) (by decide) (by decide)))
  have F_hostEnd_a1_94 := F_hostEnd_a1_82.other W88 (Or.inr (slot_ne (Or.inr (hw _ (List.mem_of_getElem? (i := 46) rfl))) (Or.inr (hw _ (List.mem_of_getElem? (i := 52) rfl))) (by decide) (t := .int) (t' := .int) (by decide) (by decide)))
  have F_port_a1_95 := F_port_a1_83.other W88 (Or.inr (slot_ne (Or.inr (hw _ (List.mem_of_getElem? (i := 48) rfl))) (Or.inr (hw _ (List.mem_of_getElem? (i := 52) rfl))) (by decide) (t := .int) (t' := .int) (by decide) (by decide)))
  have F_pathStart_a1_96 := F_pathStart_a1_84.other W88 (Or.inr (slot_ne (Or.inr (hw _ (List.mem_of_getElem? (i := 50) rfl))) (Or.inr (hw _ (List.mem_of_getElem? (i := 52) rfl))) (by decide) (t := .int) (t' := .int) (by decide) (by decide)))
  have F_pathEnd_a1_97 := F_pathEnd_a1_85.same W88
  have F_queryEnd_a1_98 := F_queryEnd_a1_86.other W88 (Or.inr (slot_ne (Or.inr (hw _ (List.mem_of_getElem? (i := 54) rfl))) (Or.inr (hw _ (List.mem_of_getElem? (i := 52) rfl))) (by decide) (t := .int) (t' := .int) (by decide) (by decide)))
  have pre88 : ∀ t, Steps p.tables e below (T88.setTop (mkF m 49 #[.val (.ref a1), .val (.ref a2), .val (.int p3), .val (.int p4), .val (.int p5), .val (.int p6), .val (.int p7), .val (.int p8), .val (.int p9), .val (.int p10)] [])) t → Steps p.tables e below (s₁.setTop (entryFrame m #[(.ref a1), (.ref a2), (.int p3), (.int p4), (.int p5), (.int p6), (.int p7), (.int p8), (.int p9), (.int p10)] 10)) t := fun t kt => pre87 t (st88 _ kt)
  have pre99 : ∀ t, Steps p.tables e below (T88.setTop (mkF m 52 #[.val (.ref a1), .val (.ref a2), .val (.int p3), .val (.int p4), .val (.int p5), .val (.int p6), .val (.int p7), .val (.int p8), .val (.int p9), .val (.int p10)] [(.int p10), (.ref a1)])) t → Steps p.tables e below (s₁.setTop (entryFrame m #[(.ref a1), (.ref a2), (.int p3), (.int p4), (.int p5), (.int p6), (.int p7), (.int p8), (.int p9), (.int p10)] 10)) t := by
    intro t kt
    refine pre88 t ?_
    show Steps p.tables e below (T88.setTop (mkF m 49 #[.val (.ref a1), .val (.ref a2), .val (.int p3), .val (.int p4), .val (.int p5), .val (.int p6), .val (.int p7), .val (.int p8), .val (.int p9), .val (.int p10)] [])) _
    refine XS.aloadN X88.here hx rfl (hb hby d7_49) rfl rfl ?_
    show Steps p.tables e below (T88.setTop (mkF m 50 #[.val (.ref a1), .val (.ref a2), .val (.int p3), .val (.int p4), .val (.int p5), .val (.int p6), .val (.int p7), .val (.int p8), .val (.int p9), .val (.int p10)] [(.ref a1)])) _
    refine XS.iload X88.here hx rfl (hb hby d7_50) rfl ?_
    exact kt
  obtain ⟨T100, h100, X100, e100, W100, st100⟩ := putF X88 hx hZ hown (host := "") (Or.inl (hw _ (List.mem_of_getElem? (i := 53) rfl))) Via.refl e88 F_queryEnd_a1_98 E_a1_89 (Or.inr ⟨(hw _ (List.mem_of_getElem? (i := 54) rfl)), rfl, hnm⟩) (hw _ (List.mem_of_getElem? (i := 2) rfl)) (ty := .int) (by decide) rfl rfl (g := (mkF m 52 #[.val (.ref a1), .val (.ref a2), .val (.int p3), .val (.int p4), .val (.int p5), .val (.int p6), .val (.int p7), .val (.int p8), .val (.int p9), .val (.int p10)] [(.int p10), (.ref a1)])) rfl rfl (hb hby d7_52)
  have N100 := Fr.snoc X100 N88 ge_a1
  have K100 : Keep h0 h100 [a1] := K88.wr W100 (Or.inl (List.mem_of_getElem? (i := 0) rfl))
  have Z100 : n0 ≤ h100.size := Nat.le_trans Z88 (Keep.of_wr W100).1
  have E_a1_101 := E_a1_89.wr W100
  have F_href_a1_102 := F_href_a1_90.other W100 (Or.inr (slot_ne (Or.inr (hw _ (List.mem_of_getElem? (i := 38) rfl))) (Or.inr (hw _ (List.mem_of_getElem? (i := 54) rfl))) (by decide) (t := (.object "java/lang/String")) (t' := .int) (by decide) (by decide)))
  have F_schemeEnd_a1_103 := F_schemeEnd_a1_91.other W100 (Or.inr (slot_ne (Or.inr (hw _ (List.mem_of_getElem? (i := 40) rfl))) (Or.inr (hw _ (List.mem_of_getElem? (i := 54) rfl))) (by decide) (t := .int) (t' := .int) (by decide) (by decide)))
  have F_usernameEnd_a1_104 := F_usernameEnd_a1_92.other W100 (Or.inr (slot_ne (Or.inr (hw _ (List.mem_of_getElem? (i := 42) rfl))) (Or.inr (hw _ (List.mem_of_getElem? (i := 54) rfl))) (by decide) (t := .int) (t' := .int) (by decide) (by decide)))
  have F_hostStart_a1_105 := F_hostStart_a1_93.other W100 (Or.inr (slot_ne (Or.inr (hw _ (List.mem_of_getElem? (i := 44) rfl))) (Or.inr (hw _ (List.mem_of_getElem? (i := 54) rfl))) (by decide) (t := .int) (t' := .int) (by decide) (by decide)))
  have F_hostEnd_a1_106 := F_hostEnd_a1_94.other W100 (Or.inr (slot_ne (Or.inr (hw _ (List.mem_of_getElem? (i := 46) rfl))) (Or.inr (hw _ (List.mem_of_getElem? (i := 54) rfl))) (by decide) (t := .int) (t' := .int) (by decide) (by decide)))
  have F_port_a1_107 := F_port_a1_95.other W100 (Or.inr (slot_ne (Or.inr (hw _ (List.mem_of_getElem? (i := 48) rfl))) (Or.inr (hw _ (List.mem_of_getElem? (i := 54) rfl))) (by decide) (t := .int) (t' := .int) (by decide) (by decide)))
  have F_pathStart_a1_108 := F_pathStart_a1_96.other W100 (Or.inr (slot_ne (Or.inr (hw _ (List.mem_of_getElem? (i := 50) rfl))) (Or.inr (hw _ (List.mem_of_getElem? (i := 54) rfl))) (by decide) (t := .int) (t' := .int) (by decide) (by decide)))
  have F_pathEnd_a1_109 := F_pathEnd_a1_97.other W100 (Or.inr (slot_ne (Or.inr (hw _ (List.mem_of_getElem? (i := 52) rfl))) (Or.inr (hw _ (List.mem_of_getElem? (i := 54) rfl))) (by decide) (t := .int) (t' := .int) (by decide) (by decide)))
  have F_queryEnd_a1_110 := F_queryEnd_a1_98.same W100
  have pre100 : ∀ t, Steps p.tables e below (T100.setTop (mkF m 55 #[.val (.ref a1), .val (.ref a2), .val (.int p3), .val (.int p4), .val (.int p5), .val (.int p6), .val (.int p7), .val (.int p8), .val (.int p9), .val (.int p10)] [])) t → Steps p.tables e below (s₁.setTop (entryFrame m #[(.ref a1), (.ref a2), (.int p3), (.int p4), (.int p5), (.int p6), (.int p7), (.int p8), (.int p9), (.int p10)] 10)) t := fun t kt => pre99 t (st100 _ kt)
  obtain ⟨fs, hr, hrun, hended, hW, hsame⟩ := X100.leave (v := none) (fun _ => rfl)
  refine ⟨_, _, pre100 _ ?_, hrun, hended, _, _, rfl, ?_, ⟨_, rfl⟩, hW, hsame.mono (by decide) (by decide)⟩
  · show Steps p.tables e below (T100.setTop (mkF m 55 #[.val (.ref a1), .val (.ref a2), .val (.int p3), .val (.int p4), .val (.int p5), .val (.int p6), .val (.int p7), .val (.int p8), .val (.int p9), .val (.int p10)] [])) _
    exact X100.returnOut hx Bd.returns (hb hby d7_55) hr
  · show Qrm7 Z a1 a2 p3 p4 p5 p6 p7 p8 p9 p10 h0 n0 _ T100.heap _
    rw [e100]
    exact ⟨rfl, N100, K100, E_a1_101, F_hostEnd_a1_106, F_port_a1_107, F_pathStart_a1_108⟩
def Qrm8 (Z : State) (a1 : Addr) (w1 : Int32) (w2 : Int32) (w3 : Int32) (h0 : Heap) (n0 : Nat) (v : Option Value) (h : Heap) (L : List Loc) : Prop := v = some (.int (if w1 < (0 : Int32) then w2 else w3)) ∧ Fr n0 L ∧ h = h0
theorem d8_0 : decode prog_7_method_47_code 0 = .ok (.aload_n 0, 1) := by decide +kernel
theorem d8_1 : decode prog_7_method_47_code 1 = .ok (.getfield 26, 3) := by decide +kernel
theorem d8_4 : decode prog_7_method_47_code 4 = .ok (.ifCond .ge 10, 3) := by decide +kernel
theorem d8_7 : decode prog_7_method_47_code 7 = .ok (.aload_n 0, 1) := by decide +kernel
theorem d8_8 : decode prog_7_method_47_code 8 = .ok (.getfield 23, 3) := by decide +kernel
theorem d8_11 : decode prog_7_method_47_code 11 = .ok (.goto 7, 3) := by decide +kernel
theorem d8_14 : decode prog_7_method_47_code 14 = .ok (.aload_n 0, 1) := by decide +kernel
theorem d8_15 : decode prog_7_method_47_code 15 = .ok (.getfield 29, 3) := by decide +kernel
theorem d8_18 : decode prog_7_method_47_code 18 = .ok (.ireturn, 1) := by decide +kernel
theorem ef_8 (m : MethodId) (x0 : Addr) : entryFrame m #[(.ref x0)] 1 = mkF m 0 #[.val (.ref x0)] [] := by first | (simp [entryFrame, mkF, argsToLocals, Value.category]; done) | rfl
set_option maxRecDepth 65536 in
set_option maxHeartbeats 40000000 in
theorem rm8 (l : Launch) (Z : State) (a0 : Array Value) (hw : ∀ d ∈ tables_1, d.before a0 Z = true) (ws : List Jvm.Cond) (a1 : Addr) (w1 : Int32) (w2 : Int32) (w3 : Int32) (h0 : Heap) (n0 : Nat) (Z0 : n0 ≤ h0.size) (F_port_a1 : Fld Z h0 a1 "com/example/meyrin/meyrin/Url" "port" "I" (.int w1)) (F_hostEnd_a1 : Fld Z h0 a1 "com/example/meyrin/meyrin/Url" "hostEnd" "I" (.int w2)) (F_pathStart_a1 : Fld Z h0 a1 "com/example/meyrin/meyrin/Url" "pathStart" "I" (.int w3)) :
    MetFree l (⟨"com/example/meyrin/meyrin/Url", "authorityEnd", "()I"⟩ : MethodName) (head1 (Jvm.Cond.code (⟨"com/example/meyrin/meyrin/Url", "authorityEnd", "()I"⟩ : MethodName) prog_7_method_47_code 1 (some .int) :: ws) ({ frames := 0, cells := 0, slots := 0, locals := 0 } : Room)) (fun a U => a = #[(.ref a1)] ∧ Z.Warmed39 U.vm ∧ U.heap = h0) (fun _ _ _ _ _ => True) (fun _ U o U' => ∃ v L, o = .returned v ∧ Qrm8 Z a1 w1 w2 w3 h0 n0 v U'.heap L ∧ FrameEnd U o U' L ({ frames := 0, cells := 0, slots := 0, locals := 0 } : Room).cells ({ frames := 0, cells := 0, slots := 0, locals := 0 } : Room).slots) := by
  refine MetFree.of_bodySF (plainFor_of_name pn_1) hisR ?_
  intro p e s m args below meth c s₁ Bd hml0 hP hK
  obtain ⟨rfl, hZ, hh⟩ := hP
  have hx := Bd.exec
  have hby := Bd.bytes
  have hml : c.maxLocals = 1 := hml0
  have hown : s.vm.findClass "com/example/meyrin/meyrin/Url" = some m.cls := findClass_of_methodNamed Bd.named
  have hnm := (name_of_methodNamed Bd.named Bd.method).1
  have X0 : Stand p l e ({ frames := 0, cells := 0, slots := 0, locals := 0 } : Room) s m #[(.ref a1)] below meth c s₁ [] 0 0 := Stand.of_body Bd
  have e0 : s₁.heap = h0 := by rw [← hh, Bd.state]; rfl
  have N0 := Fr.nil n0
  have pre0 : ∀ t, Steps p.tables e below (s₁.setTop (mkF m 0 #[.val (.ref a1)] [])) t → Steps p.tables e below (s₁.setTop (entryFrame m #[(.ref a1)] 1)) t := fun t k => castTop (ef_8 m a1) k
  have pre1 : ∀ t, Steps p.tables e below (s₁.setTop (mkF m 1 #[.val (.ref a1)] [(.ref a1)])) t → Steps p.tables e below (s₁.setTop (entryFrame m #[(.ref a1)] 1)) t := by
    intro t kt
    refine pre0 t ?_
    show Steps p.tables e below (s₁.setTop (mkF m 0 #[.val (.ref a1)] [])) _
    refine XS.aloadN X0.here hx rfl (hb hby d8_0) rfl rfl ?_
    exact kt
  obtain ⟨T2, X2, e2, st2⟩ := getF X0 hx hZ hown (host := "") (Or.inl (hw _ (List.mem_of_getElem? (i := 47) rfl))) Via.refl e0 F_port_a1 (g := (mkF m 1 #[.val (.ref a1)] [(.ref a1)])) rfl rfl (hb hby d8_1)
  have pre2 : ∀ t, Steps p.tables e below (T2.setTop (mkF m 4 #[.val (.ref a1)] [(.int w1)])) t → Steps p.tables e below (s₁.setTop (entryFrame m #[(.ref a1)] 1)) t := fun t kt => pre1 t (st2 _ kt)
  by_cases hc4 : w1 < (0 : Int32)
  · have pre3 : ∀ t, Steps p.tables e below (T2.setTop (mkF m 7 #[.val (.ref a1)] [])) t → Steps p.tables e below (s₁.setTop (entryFrame m #[(.ref a1)] 1)) t := by
      intro t kt
      refine pre2 t ?_
      show Steps p.tables e below (T2.setTop (mkF m 4 #[.val (.ref a1)] [(.int w1)])) _
      refine XS.ifNo X2.here hx rfl (hb hby d8_4) rfl ((if0 _ _).trans (tlt hc4).2.1) ?_
      exact kt
    have pre4 : ∀ t, Steps p.tables e below (T2.setTop (mkF m 8 #[.val (.ref a1)] [(.ref a1)])) t → Steps p.tables e below (s₁.setTop (entryFrame m #[(.ref a1)] 1)) t := by
      intro t kt
      refine pre3 t ?_
      show Steps p.tables e below (T2.setTop (mkF m 7 #[.val (.ref a1)] [])) _
      refine XS.aloadN X2.here hx rfl (hb hby d8_7) rfl rfl ?_
      exact kt
    obtain ⟨T5, X5, e5, st5⟩ := getF X2 hx hZ hown (host := "") (Or.inl (hw _ (List.mem_of_getElem? (i := 45) rfl))) Via.refl e2 F_hostEnd_a1 (g := (mkF m 8 #[.val (.ref a1)] [(.ref a1)])) rfl rfl (hb hby d8_8)
    have pre5 : ∀ t, Steps p.tables e below (T5.setTop (mkF m 11 #[.val (.ref a1)] [(.int w2)])) t → Steps p.tables e below (s₁.setTop (entryFrame m #[(.ref a1)] 1)) t := fun t kt => pre4 t (st5 _ kt)
    have pre6 : ∀ t, Steps p.tables e below (T5.setTop (mkF m 18 #[.val (.ref a1)] [(.int w2)])) t → Steps p.tables e below (s₁.setTop (entryFrame m #[(.ref a1)] 1)) t := by
      intro t kt
      refine pre5 t ?_
      show Steps p.tables e below (T5.setTop (mkF m 11 #[.val (.ref a1)] [(.int w2)])) _
      refine XS.goto X5.here hx rfl (pc0 := 11) (pc' := 18) rfl (hb hby d8_11) (by decide) (by decide) ?_
      exact kt
    have hres : w2 = (if w1 < (0 : Int32) then w2 else w3) := by rw [if_pos hc4]
    obtain ⟨fs, hr, hrun, hended, hW, hsame⟩ := X5.leave (v := some (.int w2)) (fun h => by rw [Bd.returns] at h; cases h)
    refine ⟨_, _, pre6 _ ?_, hrun, hended, _, _, rfl, ?_, ⟨_, rfl⟩, hW, hsame.mono (by decide) (by decide)⟩
    · show Steps p.tables e below (T5.setTop (mkF m 18 #[.val (.ref a1)] [(.int w2)])) _
      exact retI X5 hx Bd.returns (hb hby d8_18) hr
    · show Qrm8 Z a1 w1 w2 w3 h0 n0 _ T5.heap _
      rw [e5]
      exact ⟨congrArg some (congrArg Value.int hres), N0, rfl⟩
  · have pre7 : ∀ t, Steps p.tables e below (T2.setTop (mkF m 14 #[.val (.ref a1)] [])) t → Steps p.tables e below (s₁.setTop (entryFrame m #[(.ref a1)] 1)) t := by
      intro t kt
      refine pre2 t ?_
      show Steps p.tables e below (T2.setTop (mkF m 4 #[.val (.ref a1)] [(.int w1)])) _
      refine XS.ifYes X2.here hx rfl (pc0 := 4) (pc' := 14) rfl (hb hby d8_4) rfl ((if0 _ _).trans (flt hc4).2.1) (by decide) (by decide) ?_
      exact kt
    have pre8 : ∀ t, Steps p.tables e below (T2.setTop (mkF m 15 #[.val (.ref a1)] [(.ref a1)])) t → Steps p.tables e below (s₁.setTop (entryFrame m #[(.ref a1)] 1)) t := by
      intro t kt
      refine pre7 t ?_
      show Steps p.tables e below (T2.setTop (mkF m 14 #[.val (.ref a1)] [])) _
      refine XS.aloadN X2.here hx rfl (hb hby d8_14) rfl rfl ?_
      exact kt
    obtain ⟨T9, X9, e9, st9⟩ := getF X2 hx hZ hown (host := "") (Or.inl (hw _ (List.mem_of_getElem? (i := 49) rfl))) Via.refl e2 F_pathStart_a1 (g := (mkF m 15 #[.val (.ref a1)] [(.ref a1)])) rfl rfl (hb hby d8_15)
    have pre9 : ∀ t, Steps p.tables e below (T9.setTop (mkF m 18 #[.val (.ref a1)] [(.int w3)])) t → Steps p.tables e below (s₁.setTop (entryFrame m #[(.ref a1)] 1)) t := fun t kt => pre8 t (st9 _ kt)
    have hres : w3 = (if w1 < (0 : Int32) then w2 else w3) := by rw [if_neg hc4]
    obtain ⟨fs, hr, hrun, hended, hW, hsame⟩ := X9.leave (v := some (.int w3)) (fun h => by rw [Bd.returns] at h; cases h)
    refine ⟨_, _, pre9 _ ?_, hrun, hended, _, _, rfl, ?_, ⟨_, rfl⟩, hW, hsame.mono (by decide) (by decide)⟩
    · show Steps p.tables e below (T9.setTop (mkF m 18 #[.val (.ref a1)] [(.int w3)])) _
      exact retI X9 hx Bd.returns (hb hby d8_18) hr
    · show Qrm8 Z a1 w1 w2 w3 h0 n0 _ T9.heap _
      rw [e9]
      exact ⟨congrArg some (congrArg Value.int hres), N0, rfl⟩
def Q0 (n0 : Nat) (v : Option Value) (h : Heap) (L : List Loc) : Prop := v = some (.int (1 : Int32)) ∧ Fr n0 L
theorem ef_0 (m : MethodId) (x0 : Int32) (x1 : Int32) (x2 : Int32) : entryFrame m #[(.int x0), (.int x1), (.int x2)] maxLocals = mkF m 0 #[.val (.int x0), .val (.int x1), .val (.int x2), .unset, .unset, .unset, .unset, .unset, .unset, .unset, .unset, .unset, .unset, .unset, .unset, .unset] [] := by first | (simp [entryFrame, mkF, argsToLocals, Value.category, maxLocals]; done) | rfl
set_option maxRecDepth 65536 in
set_option maxHeartbeats 40000000 in
theorem rm0 (l : Launch) (Z : State) (a0 : Array Value) (hw : ∀ d ∈ tables_1, d.before a0 Z = true) (ws : List Jvm.Cond) (p1 : Int32) (p2 : Int32) (p3 : Int32) (cz : Int32) (h0 : Heap) (n0 : Nat) (Z0 : n0 ≤ h0.size) (SCS : Sta Z h0 "java/lang/String" "COMPACT_STRINGS" "Z" (.int cz)) (hCS : ¬ (cz = (0 : Int32))) :
    MetFree l x (head1 (Jvm.Cond.code x code maxLocals ret :: ws) room_1) (fun a U => a = #[(.int p1), (.int p2), (.int p3)] ∧ Z.Warmed39 U.vm ∧ U.heap = h0) (fun _ _ _ _ _ => True) (fun _ U o U' => ∃ v L, o = .returned v ∧ Q0 n0 v U'.heap L ∧ FrameEnd U o U' L room_1.cells room_1.slots) := by
  refine MetFree.of_bodySF (plainFor_of_name pn_0) hisR ?_
  intro p e s m args below meth c s₁ Bd hml0 hP hK
  obtain ⟨rfl, hZ, hh⟩ := hP
  have hx := Bd.exec
  have hby := Bd.bytes
  have hml : c.maxLocals = 16 := hml0
  have hown : s.vm.findClass "com/example/meyrin/meyrin/UrlAuthorityEndPinLaw" = some m.cls := findClass_of_methodNamed Bd.named
  have hnm := (name_of_methodNamed Bd.named Bd.method).1
  have X0 : Stand p l e room_1 s m #[(.int p1), (.int p2), (.int p3)] below meth c s₁ [] 0 0 := Stand.of_body Bd
  have e0 : s₁.heap = h0 := by rw [← hh, Bd.state]; rfl
  have N0 := Fr.nil n0
  have pre0 : ∀ t, Steps p.tables e below (s₁.setTop (mkF m 0 #[.val (.int p1), .val (.int p2), .val (.int p3), .unset, .unset, .unset, .unset, .unset, .unset, .unset, .unset, .unset, .unset, .unset, .unset, .unset] [])) t → Steps p.tables e below (s₁.setTop (entryFrame m #[(.int p1), (.int p2), (.int p3)] maxLocals)) t := fun t k => castTop (ef_0 m p1 p2 p3) k
  have hws : ∀ d ∈ StrChars.Road.words, d.before a0 Z = true := fun d hd => hw d ((by decide +kernel : ∀ d ∈ StrChars.Road.words, d ∈ tables_1) d hd)
  have pre1 : ∀ t, Steps p.tables e below (s₁.setTop (mkF m 2 #[.val (.int p1), .val (.int p2), .val (.int p3), .unset, .unset, .unset, .unset, .unset, .unset, .unset, .unset, .unset, .unset, .unset, .unset, .unset] [(.int (20 : Int32))])) t → Steps p.tables e below (s₁.setTop (entryFrame m #[(.int p1), (.int p2), (.int p3)] maxLocals)) t := by
    intro t kt
    refine pre0 t ?_
    show Steps p.tables e below (s₁.setTop (mkF m 0 #[.val (.int p1), .val (.int p2), .val (.int p3), .unset, .unset, .unset, .unset, .unset, .unset, .unset, .unset, .unset, .unset, .unset, .unset, .unset] [])) _
    refine XS.bipush X0.here hx rfl (hb hby at_0) ?_
    exact kt
  obtain ⟨T2, h2, k2, X2, e2, E2, A2, st2⟩ := newP X0 hx hZ (hw _ (List.mem_of_getElem? (i := 0) rfl)) e0 (g := (mkF m 2 #[.val (.int p1), .val (.int p2), .val (.int p3), .unset, .unset, .unset, .unset, .unset, .unset, .unset, .unset, .unset, .unset, .unset, .unset, .unset] [(.int (20 : Int32))])) rfl (hb hby at_2) rfl (by decide) (cap := 20) (by decide) (by decide) (by decide) (by decide)
  obtain ⟨b2, g2⟩ : ∃ z, z = h0.size := ⟨_, rfl⟩
  have g_b2 : n0 ≤ b2 := Nat.le_trans Z0 (Nat.le_of_eq g2.symm)
  have sz_b2 : h0.size ≤ b2 := Nat.le_trans (Keep.refl h0 []).1 (Nat.le_of_eq g2.symm)
  rw [← g2] at A2 st2
  have K2 : Keep h0 h2 [] := (Keep.refl h0 []).ext E2
  have Z2 : n0 ≤ h2.size := Nat.le_trans Z0 E2.1
  have SCS_3 := SCS.ext E2
  have V_b2 : Arv Z h2 b2 k2 .char (20 : Int32) [(.int (0 : Int32)), (.int (0 : Int32)), (.int (0 : Int32)), (.int (0 : Int32)), (.int (0 : Int32)), (.int (0 : Int32)), (.int (0 : Int32)), (.int (0 : Int32)), (.int (0 : Int32)), (.int (0 : Int32)), (.int (0 : Int32)), (.int (0 : Int32)), (.int (0 : Int32)), (.int (0 : Int32)), (.int (0 : Int32)), (.int (0 : Int32)), (.int (0 : Int32)), (.int (0 : Int32)), (.int (0 : Int32)), (.int (0 : Int32))] (.int (0 : Int32)) := (Arv.new A2 (by decide)).pad (pad_rep [] (.int (0 : Int32)) 20)
  have pre2 : ∀ t, Steps p.tables e below (T2.setTop (mkF m 4 #[.val (.int p1), .val (.int p2), .val (.int p3), .unset, .unset, .unset, .unset, .unset, .unset, .unset, .unset, .unset, .unset, .unset, .unset, .unset] [(.ref b2)])) t → Steps p.tables e below (s₁.setTop (entryFrame m #[(.int p1), (.int p2), (.int p3)] maxLocals)) t := fun t kt => pre1 t (st2 _ kt)
  have pre4 : ∀ t, Steps p.tables e below (T2.setTop (mkF m 8 #[.val (.int p1), .val (.int p2), .val (.int p3), .unset, .unset, .unset, .unset, .unset, .unset, .unset, .unset, .unset, .unset, .unset, .unset, .unset] [(.int (112 : Int32)), (.int (0 : Int32)), (.ref b2), (.ref b2)])) t → Steps p.tables e below (s₁.setTop (entryFrame m #[(.int p1), (.int p2), (.int p3)] maxLocals)) t := by
    intro t kt
    refine pre2 t ?_
    show Steps p.tables e below (T2.setTop (mkF m 4 #[.val (.int p1), .val (.int p2), .val (.int p3), .unset, .unset, .unset, .unset, .unset, .unset, .unset, .unset, .unset, .unset, .unset, .unset, .unset] [(.ref b2)])) _
    refine XS.dup X2.here hx rfl (hb hby at_4) rfl rfl ?_
    show Steps p.tables e below (T2.setTop (mkF m 5 #[.val (.int p1), .val (.int p2), .val (.int p3), .unset, .unset, .unset, .unset, .unset, .unset, .unset, .unset, .unset, .unset, .unset, .unset, .unset] [(.ref b2), (.ref b2)])) _
    refine XS.iconst X2.here hx rfl (hb hby at_5) ?_
    show Steps p.tables e below (T2.setTop (mkF m 6 #[.val (.int p1), .val (.int p2), .val (.int p3), .unset, .unset, .unset, .unset, .unset, .unset, .unset, .unset, .unset, .unset, .unset, .unset, .unset] [(.int (0 : Int32)), (.ref b2), (.ref b2)])) _
    refine XS.bipush X2.here hx rfl (hb hby at_6) ?_
    exact kt
  obtain ⟨cl5, Ar5, q5, S5, M5, H5, G5⟩ := (id V_b2)
  have hin5 : ¬ ((0 : Int32) < 0 ∨ cl5.slots.size ≤ ((0 : Int32)).toNatClampNeg) := inb_of S5 ⟨by decide, by decide⟩
  obtain ⟨T5, h5, X5, e5, W5, st5⟩ := stC X2 hx hZ e2 Ar5 (j := (0 : Int32)) hin5 (g := (mkF m 8 #[.val (.int p1), .val (.int p2), .val (.int p3), .unset, .unset, .unset, .unset, .unset, .unset, .unset, .unset, .unset, .unset, .unset, .unset, .unset] [(.int (112 : Int32)), (.int (0 : Int32)), (.ref b2), (.ref b2)])) rfl rfl (hb hby at_8)
  have V_b2_5 := Arv.set Ar5 q5 S5 M5 H5 G5 (fits_nar_char _) W5 0 rfl (Nat.le_of_ble_eq_true rfl)
  have N5 := Fr.snoc X5 N0 g_b2
  have K5 : Keep h0 h5 [] := K2.wr W5 (Or.inr sz_b2)
  have Z5 : n0 ≤ h5.size := Nat.le_trans Z2 (Keep.of_wr W5).1
  have SCS_6 := SCS_3.wr W5
  have V_b2_5' : Arv Z h5 b2 k2 .char (20 : Int32) [(.int (112 : Int32)), (.int (0 : Int32)), (.int (0 : Int32)), (.int (0 : Int32)), (.int (0 : Int32)), (.int (0 : Int32)), (.int (0 : Int32)), (.int (0 : Int32)), (.int (0 : Int32)), (.int (0 : Int32)), (.int (0 : Int32)), (.int (0 : Int32)), (.int (0 : Int32)), (.int (0 : Int32)), (.int (0 : Int32)), (.int (0 : Int32)), (.int (0 : Int32)), (.int (0 : Int32)), (.int (0 : Int32)), (.int (0 : Int32))] (.int (0 : Int32)) := V_b2_5
  have pre5 : ∀ t, Steps p.tables e below (T5.setTop (mkF m 9 #[.val (.int p1), .val (.int p2), .val (.int p3), .unset, .unset, .unset, .unset, .unset, .unset, .unset, .unset, .unset, .unset, .unset, .unset, .unset] [(.ref b2)])) t → Steps p.tables e below (s₁.setTop (entryFrame m #[(.int p1), (.int p2), (.int p3)] maxLocals)) t := fun t kt => pre4 t (st5 _ kt)
  have pre8 : ∀ t, Steps p.tables e below (T5.setTop (mkF m 13 #[.val (.int p1), .val (.int p2), .val (.int p3), .unset, .unset, .unset, .unset, .unset, .unset, .unset, .unset, .unset, .unset, .unset, .unset, .unset] [(.int (112 : Int32)), (.int (1 : Int32)), (.ref b2), (.ref b2)])) t → Steps p.tables e below (s₁.setTop (entryFrame m #[(.int p1), (.int p2), (.int p3)] maxLocals)) t := by
    intro t kt
    refine pre5 t ?_
    show Steps p.tables e below (T5.setTop (mkF m 9 #[.val (.int p1), .val (.int p2), .val (.int p3), .unset, .unset, .unset, .unset, .unset, .unset, .unset, .unset, .unset, .unset, .unset, .unset, .unset] [(.ref b2)])) _
    refine XS.dup X5.here hx rfl (hb hby at_9) rfl rfl ?_
    show Steps p.tables e below (T5.setTop (mkF m 10 #[.val (.int p1), .val (.int p2), .val (.int p3), .unset, .unset, .unset, .unset, .unset, .unset, .unset, .unset, .unset, .unset, .unset, .unset, .unset] [(.ref b2), (.ref b2)])) _
    refine XS.iconst X5.here hx rfl (hb hby at_10) ?_
    show Steps p.tables e below (T5.setTop (mkF m 11 #[.val (.int p1), .val (.int p2), .val (.int p3), .unset, .unset, .unset, .unset, .unset, .unset, .unset, .unset, .unset, .unset, .unset, .unset, .unset] [(.int (1 : Int32)), (.ref b2), (.ref b2)])) _
    refine XS.bipush X5.here hx rfl (hb hby at_11) ?_
    exact kt
  obtain ⟨cl9, Ar9, q9, S9, M9, H9, G9⟩ := (id V_b2_5')
  have hin9 : ¬ ((1 : Int32) < 0 ∨ cl9.slots.size ≤ ((1 : Int32)).toNatClampNeg) := inb_of S9 ⟨by decide, by decide⟩
  obtain ⟨T9, h9, X9, e9, W9, st9⟩ := stC X5 hx hZ e5 Ar9 (j := (1 : Int32)) hin9 (g := (mkF m 13 #[.val (.int p1), .val (.int p2), .val (.int p3), .unset, .unset, .unset, .unset, .unset, .unset, .unset, .unset, .unset, .unset, .unset, .unset, .unset] [(.int (112 : Int32)), (.int (1 : Int32)), (.ref b2), (.ref b2)])) rfl rfl (hb hby at_13)
  have V_b2_9 := Arv.set Ar9 q9 S9 M9 H9 G9 (fits_nar_char _) W9 1 rfl (Nat.le_of_ble_eq_true rfl)
  have N9 := Fr.snoc X9 N5 g_b2
  have K9 : Keep h0 h9 [] := K5.wr W9 (Or.inr sz_b2)
  have Z9 : n0 ≤ h9.size := Nat.le_trans Z5 (Keep.of_wr W9).1
  have SCS_10 := SCS_6.wr W9
  have V_b2_9' : Arv Z h9 b2 k2 .char (20 : Int32) [(.int (112 : Int32)), (.int (112 : Int32)), (.int (0 : Int32)), (.int (0 : Int32)), (.int (0 : Int32)), (.int (0 : Int32)), (.int (0 : Int32)), (.int (0 : Int32)), (.int (0 : Int32)), (.int (0 : Int32)), (.int (0 : Int32)), (.int (0 : Int32)), (.int (0 : Int32)), (.int (0 : Int32)), (.int (0 : Int32)), (.int (0 : Int32)), (.int (0 : Int32)), (.int (0 : Int32)), (.int (0 : Int32)), (.int (0 : Int32))] (.int (0 : Int32)) := V_b2_9
  have pre9 : ∀ t, Steps p.tables e below (T9.setTop (mkF m 14 #[.val (.int p1), .val (.int p2), .val (.int p3), .unset, .unset, .unset, .unset, .unset, .unset, .unset, .unset, .unset, .unset, .unset, .unset, .unset] [(.ref b2)])) t → Steps p.tables e below (s₁.setTop (entryFrame m #[(.int p1), (.int p2), (.int p3)] maxLocals)) t := fun t kt => pre8 t (st9 _ kt)
  have pre12 : ∀ t, Steps p.tables e below (T9.setTop (mkF m 18 #[.val (.int p1), .val (.int p2), .val (.int p3), .unset, .unset, .unset, .unset, .unset, .unset, .unset, .unset, .unset, .unset, .unset, .unset, .unset] [(.int (112 : Int32)), (.int (2 : Int32)), (.ref b2), (.ref b2)])) t → Steps p.tables e below (s₁.setTop (entryFrame m #[(.int p1), (.int p2), (.int p3)] maxLocals)) t := by
    intro t kt
    refine pre9 t ?_
    show Steps p.tables e below (T9.setTop (mkF m 14 #[.val (.int p1), .val (.int p2), .val (.int p3), .unset, .unset, .unset, .unset, .unset, .unset, .unset, .unset, .unset, .unset, .unset, .unset, .unset] [(.ref b2)])) _
    refine XS.dup X9.here hx rfl (hb hby at_14) rfl rfl ?_
    show Steps p.tables e below (T9.setTop (mkF m 15 #[.val (.int p1), .val (.int p2), .val (.int p3), .unset, .unset, .unset, .unset, .unset, .unset, .unset, .unset, .unset, .unset, .unset, .unset, .unset] [(.ref b2), (.ref b2)])) _
    refine XS.iconst X9.here hx rfl (hb hby at_15) ?_
    show Steps p.tables e below (T9.setTop (mkF m 16 #[.val (.int p1), .val (.int p2), .val (.int p3), .unset, .unset, .unset, .unset, .unset, .unset, .unset, .unset, .unset, .unset, .unset, .unset, .unset] [(.int (2 : Int32)), (.ref b2), (.ref b2)])) _
    refine XS.bipush X9.here hx rfl (hb hby at_16) ?_
    exact kt
  obtain ⟨cl13, Ar13, q13, S13, M13, H13, G13⟩ := (id V_b2_9')
  have hin13 : ¬ ((2 : Int32) < 0 ∨ cl13.slots.size ≤ ((2 : Int32)).toNatClampNeg) := inb_of S13 ⟨by decide, by decide⟩
  obtain ⟨T13, h13, X13, e13, W13, st13⟩ := stC X9 hx hZ e9 Ar13 (j := (2 : Int32)) hin13 (g := (mkF m 18 #[.val (.int p1), .val (.int p2), .val (.int p3), .unset, .unset, .unset, .unset, .unset, .unset, .unset, .unset, .unset, .unset, .unset, .unset, .unset] [(.int (112 : Int32)), (.int (2 : Int32)), (.ref b2), (.ref b2)])) rfl rfl (hb hby at_18)
  have V_b2_13 := Arv.set Ar13 q13 S13 M13 H13 G13 (fits_nar_char _) W13 2 rfl (Nat.le_of_ble_eq_true rfl)
  have N13 := Fr.snoc X13 N9 g_b2
  have K13 : Keep h0 h13 [] := K9.wr W13 (Or.inr sz_b2)
  have Z13 : n0 ≤ h13.size := Nat.le_trans Z9 (Keep.of_wr W13).1
  have SCS_14 := SCS_10.wr W13
  have V_b2_13' : Arv Z h13 b2 k2 .char (20 : Int32) [(.int (112 : Int32)), (.int (112 : Int32)), (.int (112 : Int32)), (.int (0 : Int32)), (.int (0 : Int32)), (.int (0 : Int32)), (.int (0 : Int32)), (.int (0 : Int32)), (.int (0 : Int32)), (.int (0 : Int32)), (.int (0 : Int32)), (.int (0 : Int32)), (.int (0 : Int32)), (.int (0 : Int32)), (.int (0 : Int32)), (.int (0 : Int32)), (.int (0 : Int32)), (.int (0 : Int32)), (.int (0 : Int32)), (.int (0 : Int32))] (.int (0 : Int32)) := V_b2_13
  have pre13 : ∀ t, Steps p.tables e below (T13.setTop (mkF m 19 #[.val (.int p1), .val (.int p2), .val (.int p3), .unset, .unset, .unset, .unset, .unset, .unset, .unset, .unset, .unset, .unset, .unset, .unset, .unset] [(.ref b2)])) t → Steps p.tables e below (s₁.setTop (entryFrame m #[(.int p1), (.int p2), (.int p3)] maxLocals)) t := fun t kt => pre12 t (st13 _ kt)
  have pre16 : ∀ t, Steps p.tables e below (T13.setTop (mkF m 23 #[.val (.int p1), .val (.int p2), .val (.int p3), .unset, .unset, .unset, .unset, .unset, .unset, .unset, .unset, .unset, .unset, .unset, .unset, .unset] [(.int (112 : Int32)), (.int (3 : Int32)), (.ref b2), (.ref b2)])) t → Steps p.tables e below (s₁.setTop (entryFrame m #[(.int p1), (.int p2), (.int p3)] maxLocals)) t := by
    intro t kt
    refine pre13 t ?_
    show Steps p.tables e below (T13.setTop (mkF m 19 #[.val (.int p1), .val (.int p2), .val (.int p3), .unset, .unset, .unset, .unset, .unset, .unset, .unset, .unset, .unset, .unset, .unset, .unset, .unset] [(.ref b2)])) _
    refine XS.dup X13.here hx rfl (hb hby at_19) rfl rfl ?_
    show Steps p.tables e below (T13.setTop (mkF m 20 #[.val (.int p1), .val (.int p2), .val (.int p3), .unset, .unset, .unset, .unset, .unset, .unset, .unset, .unset, .unset, .unset, .unset, .unset, .unset] [(.ref b2), (.ref b2)])) _
    refine XS.iconst X13.here hx rfl (hb hby at_20) ?_
    show Steps p.tables e below (T13.setTop (mkF m 21 #[.val (.int p1), .val (.int p2), .val (.int p3), .unset, .unset, .unset, .unset, .unset, .unset, .unset, .unset, .unset, .unset, .unset, .unset, .unset] [(.int (3 : Int32)), (.ref b2), (.ref b2)])) _
    refine XS.bipush X13.here hx rfl (hb hby at_21) ?_
    exact kt
  obtain ⟨cl17, Ar17, q17, S17, M17, H17, G17⟩ := (id V_b2_13')
  have hin17 : ¬ ((3 : Int32) < 0 ∨ cl17.slots.size ≤ ((3 : Int32)).toNatClampNeg) := inb_of S17 ⟨by decide, by decide⟩
  obtain ⟨T17, h17, X17, e17, W17, st17⟩ := stC X13 hx hZ e13 Ar17 (j := (3 : Int32)) hin17 (g := (mkF m 23 #[.val (.int p1), .val (.int p2), .val (.int p3), .unset, .unset, .unset, .unset, .unset, .unset, .unset, .unset, .unset, .unset, .unset, .unset, .unset] [(.int (112 : Int32)), (.int (3 : Int32)), (.ref b2), (.ref b2)])) rfl rfl (hb hby at_23)
  have V_b2_17 := Arv.set Ar17 q17 S17 M17 H17 G17 (fits_nar_char _) W17 3 rfl (Nat.le_of_ble_eq_true rfl)
  have N17 := Fr.snoc X17 N13 g_b2
  have K17 : Keep h0 h17 [] := K13.wr W17 (Or.inr sz_b2)
  have Z17 : n0 ≤ h17.size := Nat.le_trans Z13 (Keep.of_wr W17).1
  have SCS_18 := SCS_14.wr W17
  have V_b2_17' : Arv Z h17 b2 k2 .char (20 : Int32) [(.int (112 : Int32)), (.int (112 : Int32)), (.int (112 : Int32)), (.int (112 : Int32)), (.int (0 : Int32)), (.int (0 : Int32)), (.int (0 : Int32)), (.int (0 : Int32)), (.int (0 : Int32)), (.int (0 : Int32)), (.int (0 : Int32)), (.int (0 : Int32)), (.int (0 : Int32)), (.int (0 : Int32)), (.int (0 : Int32)), (.int (0 : Int32)), (.int (0 : Int32)), (.int (0 : Int32)), (.int (0 : Int32)), (.int (0 : Int32))] (.int (0 : Int32)) := V_b2_17
  have pre17 : ∀ t, Steps p.tables e below (T17.setTop (mkF m 24 #[.val (.int p1), .val (.int p2), .val (.int p3), .unset, .unset, .unset, .unset, .unset, .unset, .unset, .unset, .unset, .unset, .unset, .unset, .unset] [(.ref b2)])) t → Steps p.tables e below (s₁.setTop (entryFrame m #[(.int p1), (.int p2), (.int p3)] maxLocals)) t := fun t kt => pre16 t (st17 _ kt)
  have pre20 : ∀ t, Steps p.tables e below (T17.setTop (mkF m 28 #[.val (.int p1), .val (.int p2), .val (.int p3), .unset, .unset, .unset, .unset, .unset, .unset, .unset, .unset, .unset, .unset, .unset, .unset, .unset] [(.int (112 : Int32)), (.int (4 : Int32)), (.ref b2), (.ref b2)])) t → Steps p.tables e below (s₁.setTop (entryFrame m #[(.int p1), (.int p2), (.int p3)] maxLocals)) t := by
    intro t kt
    refine pre17 t ?_
    show Steps p.tables e below (T17.setTop (mkF m 24 #[.val (.int p1), .val (.int p2), .val (.int p3), .unset, .unset, .unset, .unset, .unset, .unset, .unset, .unset, .unset, .unset, .unset, .unset, .unset] [(.ref b2)])) _
    refine XS.dup X17.here hx rfl (hb hby at_24) rfl rfl ?_
    show Steps p.tables e below (T17.setTop (mkF m 25 #[.val (.int p1), .val (.int p2), .val (.int p3), .unset, .unset, .unset, .unset, .unset, .unset, .unset, .unset, .unset, .unset, .unset, .unset, .unset] [(.ref b2), (.ref b2)])) _
    refine XS.iconst X17.here hx rfl (hb hby at_25) ?_
    show Steps p.tables e below (T17.setTop (mkF m 26 #[.val (.int p1), .val (.int p2), .val (.int p3), .unset, .unset, .unset, .unset, .unset, .unset, .unset, .unset, .unset, .unset, .unset, .unset, .unset] [(.int (4 : Int32)), (.ref b2), (.ref b2)])) _
    refine XS.bipush X17.here hx rfl (hb hby at_26) ?_
    exact kt
  obtain ⟨cl21, Ar21, q21, S21, M21, H21, G21⟩ := (id V_b2_17')
  have hin21 : ¬ ((4 : Int32) < 0 ∨ cl21.slots.size ≤ ((4 : Int32)).toNatClampNeg) := inb_of S21 ⟨by decide, by decide⟩
  obtain ⟨T21, h21, X21, e21, W21, st21⟩ := stC X17 hx hZ e17 Ar21 (j := (4 : Int32)) hin21 (g := (mkF m 28 #[.val (.int p1), .val (.int p2), .val (.int p3), .unset, .unset, .unset, .unset, .unset, .unset, .unset, .unset, .unset, .unset, .unset, .unset, .unset] [(.int (112 : Int32)), (.int (4 : Int32)), (.ref b2), (.ref b2)])) rfl rfl (hb hby at_28)
  have V_b2_21 := Arv.set Ar21 q21 S21 M21 H21 G21 (fits_nar_char _) W21 4 rfl (Nat.le_of_ble_eq_true rfl)
  have N21 := Fr.snoc X21 N17 g_b2
  have K21 : Keep h0 h21 [] := K17.wr W21 (Or.inr sz_b2)
  have Z21 : n0 ≤ h21.size := Nat.le_trans Z17 (Keep.of_wr W21).1
  have SCS_22 := SCS_18.wr W21
  have V_b2_21' : Arv Z h21 b2 k2 .char (20 : Int32) [(.int (112 : Int32)), (.int (112 : Int32)), (.int (112 : Int32)), (.int (112 : Int32)), (.int (112 : Int32)), (.int (0 : Int32)), (.int (0 : Int32)), (.int (0 : Int32)), (.int (0 : Int32)), (.int (0 : Int32)), (.int (0 : Int32)), (.int (0 : Int32)), (.int (0 : Int32)), (.int (0 : Int32)), (.int (0 : Int32)), (.int (0 : Int32)), (.int (0 : Int32)), (.int (0 : Int32)), (.int (0 : Int32)), (.int (0 : Int32))] (.int (0 : Int32)) := V_b2_21
  have pre21 : ∀ t, Steps p.tables e below (T21.setTop (mkF m 29 #[.val (.int p1), .val (.int p2), .val (.int p3), .unset, .unset, .unset, .unset, .unset, .unset, .unset, .unset, .unset, .unset, .unset, .unset, .unset] [(.ref b2)])) t → Steps p.tables e below (s₁.setTop (entryFrame m #[(.int p1), (.int p2), (.int p3)] maxLocals)) t := fun t kt => pre20 t (st21 _ kt)
  have pre24 : ∀ t, Steps p.tables e below (T21.setTop (mkF m 33 #[.val (.int p1), .val (.int p2), .val (.int p3), .unset, .unset, .unset, .unset, .unset, .unset, .unset, .unset, .unset, .unset, .unset, .unset, .unset] [(.int (112 : Int32)), (.int (5 : Int32)), (.ref b2), (.ref b2)])) t → Steps p.tables e below (s₁.setTop (entryFrame m #[(.int p1), (.int p2), (.int p3)] maxLocals)) t := by
    intro t kt
    refine pre21 t ?_
    show Steps p.tables e below (T21.setTop (mkF m 29 #[.val (.int p1), .val (.int p2), .val (.int p3), .unset, .unset, .unset, .unset, .unset, .unset, .unset, .unset, .unset, .unset, .unset, .unset, .unset] [(.ref b2)])) _
    refine XS.dup X21.here hx rfl (hb hby at_29) rfl rfl ?_
    show Steps p.tables e below (T21.setTop (mkF m 30 #[.val (.int p1), .val (.int p2), .val (.int p3), .unset, .unset, .unset, .unset, .unset, .unset, .unset, .unset, .unset, .unset, .unset, .unset, .unset] [(.ref b2), (.ref b2)])) _
    refine XS.iconst X21.here hx rfl (hb hby at_30) ?_
    show Steps p.tables e below (T21.setTop (mkF m 31 #[.val (.int p1), .val (.int p2), .val (.int p3), .unset, .unset, .unset, .unset, .unset, .unset, .unset, .unset, .unset, .unset, .unset, .unset, .unset] [(.int (5 : Int32)), (.ref b2), (.ref b2)])) _
    refine XS.bipush X21.here hx rfl (hb hby at_31) ?_
    exact kt
  obtain ⟨cl25, Ar25, q25, S25, M25, H25, G25⟩ := (id V_b2_21')
  have hin25 : ¬ ((5 : Int32) < 0 ∨ cl25.slots.size ≤ ((5 : Int32)).toNatClampNeg) := inb_of S25 ⟨by decide, by decide⟩
  obtain ⟨T25, h25, X25, e25, W25, st25⟩ := stC X21 hx hZ e21 Ar25 (j := (5 : Int32)) hin25 (g := (mkF m 33 #[.val (.int p1), .val (.int p2), .val (.int p3), .unset, .unset, .unset, .unset, .unset, .unset, .unset, .unset, .unset, .unset, .unset, .unset, .unset] [(.int (112 : Int32)), (.int (5 : Int32)), (.ref b2), (.ref b2)])) rfl rfl (hb hby at_33)
  have V_b2_25 := Arv.set Ar25 q25 S25 M25 H25 G25 (fits_nar_char _) W25 5 rfl (Nat.le_of_ble_eq_true rfl)
  have N25 := Fr.snoc X25 N21 g_b2
  have K25 : Keep h0 h25 [] := K21.wr W25 (Or.inr sz_b2)
  have Z25 : n0 ≤ h25.size := Nat.le_trans Z21 (Keep.of_wr W25).1
  have SCS_26 := SCS_22.wr W25
  have V_b2_25' : Arv Z h25 b2 k2 .char (20 : Int32) [(.int (112 : Int32)), (.int (112 : Int32)), (.int (112 : Int32)), (.int (112 : Int32)), (.int (112 : Int32)), (.int (112 : Int32)), (.int (0 : Int32)), (.int (0 : Int32)), (.int (0 : Int32)), (.int (0 : Int32)), (.int (0 : Int32)), (.int (0 : Int32)), (.int (0 : Int32)), (.int (0 : Int32)), (.int (0 : Int32)), (.int (0 : Int32)), (.int (0 : Int32)), (.int (0 : Int32)), (.int (0 : Int32)), (.int (0 : Int32))] (.int (0 : Int32)) := V_b2_25
  have pre25 : ∀ t, Steps p.tables e below (T25.setTop (mkF m 34 #[.val (.int p1), .val (.int p2), .val (.int p3), .unset, .unset, .unset, .unset, .unset, .unset, .unset, .unset, .unset, .unset, .unset, .unset, .unset] [(.ref b2)])) t → Steps p.tables e below (s₁.setTop (entryFrame m #[(.int p1), (.int p2), (.int p3)] maxLocals)) t := fun t kt => pre24 t (st25 _ kt)
  have pre28 : ∀ t, Steps p.tables e below (T25.setTop (mkF m 39 #[.val (.int p1), .val (.int p2), .val (.int p3), .unset, .unset, .unset, .unset, .unset, .unset, .unset, .unset, .unset, .unset, .unset, .unset, .unset] [(.int (112 : Int32)), (.int (6 : Int32)), (.ref b2), (.ref b2)])) t → Steps p.tables e below (s₁.setTop (entryFrame m #[(.int p1), (.int p2), (.int p3)] maxLocals)) t := by
    intro t kt
    refine pre25 t ?_
    show Steps p.tables e below (T25.setTop (mkF m 34 #[.val (.int p1), .val (.int p2), .val (.int p3), .unset, .unset, .unset, .unset, .unset, .unset, .unset, .unset, .unset, .unset, .unset, .unset, .unset] [(.ref b2)])) _
    refine XS.dup X25.here hx rfl (hb hby at_34) rfl rfl ?_
    show Steps p.tables e below (T25.setTop (mkF m 35 #[.val (.int p1), .val (.int p2), .val (.int p3), .unset, .unset, .unset, .unset, .unset, .unset, .unset, .unset, .unset, .unset, .unset, .unset, .unset] [(.ref b2), (.ref b2)])) _
    refine XS.bipush X25.here hx rfl (hb hby at_35) ?_
    show Steps p.tables e below (T25.setTop (mkF m 37 #[.val (.int p1), .val (.int p2), .val (.int p3), .unset, .unset, .unset, .unset, .unset, .unset, .unset, .unset, .unset, .unset, .unset, .unset, .unset] [(.int (6 : Int32)), (.ref b2), (.ref b2)])) _
    refine XS.bipush X25.here hx rfl (hb hby at_37) ?_
    exact kt
  obtain ⟨cl29, Ar29, q29, S29, M29, H29, G29⟩ := (id V_b2_25')
  have hin29 : ¬ ((6 : Int32) < 0 ∨ cl29.slots.size ≤ ((6 : Int32)).toNatClampNeg) := inb_of S29 ⟨by decide, by decide⟩
  obtain ⟨T29, h29, X29, e29, W29, st29⟩ := stC X25 hx hZ e25 Ar29 (j := (6 : Int32)) hin29 (g := (mkF m 39 #[.val (.int p1), .val (.int p2), .val (.int p3), .unset, .unset, .unset, .unset, .unset, .unset, .unset, .unset, .unset, .unset, .unset, .unset, .unset] [(.int (112 : Int32)), (.int (6 : Int32)), (.ref b2), (.ref b2)])) rfl rfl (hb hby at_39)
  have V_b2_29 := Arv.set Ar29 q29 S29 M29 H29 G29 (fits_nar_char _) W29 6 rfl (Nat.le_of_ble_eq_true rfl)
  have N29 := Fr.snoc X29 N25 g_b2
  have K29 : Keep h0 h29 [] := K25.wr W29 (Or.inr sz_b2)
  have Z29 : n0 ≤ h29.size := Nat.le_trans Z25 (Keep.of_wr W29).1
  have SCS_30 := SCS_26.wr W29
  have V_b2_29' : Arv Z h29 b2 k2 .char (20 : Int32) [(.int (112 : Int32)), (.int (112 : Int32)), (.int (112 : Int32)), (.int (112 : Int32)), (.int (112 : Int32)), (.int (112 : Int32)), (.int (112 : Int32)), (.int (0 : Int32)), (.int (0 : Int32)), (.int (0 : Int32)), (.int (0 : Int32)), (.int (0 : Int32)), (.int (0 : Int32)), (.int (0 : Int32)), (.int (0 : Int32)), (.int (0 : Int32)), (.int (0 : Int32)), (.int (0 : Int32)), (.int (0 : Int32)), (.int (0 : Int32))] (.int (0 : Int32)) := V_b2_29
  have pre29 : ∀ t, Steps p.tables e below (T29.setTop (mkF m 40 #[.val (.int p1), .val (.int p2), .val (.int p3), .unset, .unset, .unset, .unset, .unset, .unset, .unset, .unset, .unset, .unset, .unset, .unset, .unset] [(.ref b2)])) t → Steps p.tables e below (s₁.setTop (entryFrame m #[(.int p1), (.int p2), (.int p3)] maxLocals)) t := fun t kt => pre28 t (st29 _ kt)
  have pre32 : ∀ t, Steps p.tables e below (T29.setTop (mkF m 45 #[.val (.int p1), .val (.int p2), .val (.int p3), .unset, .unset, .unset, .unset, .unset, .unset, .unset, .unset, .unset, .unset, .unset, .unset, .unset] [(.int (112 : Int32)), (.int (7 : Int32)), (.ref b2), (.ref b2)])) t → Steps p.tables e below (s₁.setTop (entryFrame m #[(.int p1), (.int p2), (.int p3)] maxLocals)) t := by
    intro t kt
    refine pre29 t ?_
    show Steps p.tables e below (T29.setTop (mkF m 40 #[.val (.int p1), .val (.int p2), .val (.int p3), .unset, .unset, .unset, .unset, .unset, .unset, .unset, .unset, .unset, .unset, .unset, .unset, .unset] [(.ref b2)])) _
    refine XS.dup X29.here hx rfl (hb hby at_40) rfl rfl ?_
    show Steps p.tables e below (T29.setTop (mkF m 41 #[.val (.int p1), .val (.int p2), .val (.int p3), .unset, .unset, .unset, .unset, .unset, .unset, .unset, .unset, .unset, .unset, .unset, .unset, .unset] [(.ref b2), (.ref b2)])) _
    refine XS.bipush X29.here hx rfl (hb hby at_41) ?_
    show Steps p.tables e below (T29.setTop (mkF m 43 #[.val (.int p1), .val (.int p2), .val (.int p3), .unset, .unset, .unset, .unset, .unset, .unset, .unset, .unset, .unset, .unset, .unset, .unset, .unset] [(.int (7 : Int32)), (.ref b2), (.ref b2)])) _
    refine XS.bipush X29.here hx rfl (hb hby at_43) ?_
    exact kt
  obtain ⟨cl33, Ar33, q33, S33, M33, H33, G33⟩ := (id V_b2_29')
  have hin33 : ¬ ((7 : Int32) < 0 ∨ cl33.slots.size ≤ ((7 : Int32)).toNatClampNeg) := inb_of S33 ⟨by decide, by decide⟩
  obtain ⟨T33, h33, X33, e33, W33, st33⟩ := stC X29 hx hZ e29 Ar33 (j := (7 : Int32)) hin33 (g := (mkF m 45 #[.val (.int p1), .val (.int p2), .val (.int p3), .unset, .unset, .unset, .unset, .unset, .unset, .unset, .unset, .unset, .unset, .unset, .unset, .unset] [(.int (112 : Int32)), (.int (7 : Int32)), (.ref b2), (.ref b2)])) rfl rfl (hb hby at_45)
  have V_b2_33 := Arv.set Ar33 q33 S33 M33 H33 G33 (fits_nar_char _) W33 7 rfl (Nat.le_of_ble_eq_true rfl)
  have N33 := Fr.snoc X33 N29 g_b2
  have K33 : Keep h0 h33 [] := K29.wr W33 (Or.inr sz_b2)
  have Z33 : n0 ≤ h33.size := Nat.le_trans Z29 (Keep.of_wr W33).1
  have SCS_34 := SCS_30.wr W33
  have V_b2_33' : Arv Z h33 b2 k2 .char (20 : Int32) [(.int (112 : Int32)), (.int (112 : Int32)), (.int (112 : Int32)), (.int (112 : Int32)), (.int (112 : Int32)), (.int (112 : Int32)), (.int (112 : Int32)), (.int (112 : Int32)), (.int (0 : Int32)), (.int (0 : Int32)), (.int (0 : Int32)), (.int (0 : Int32)), (.int (0 : Int32)), (.int (0 : Int32)), (.int (0 : Int32)), (.int (0 : Int32)), (.int (0 : Int32)), (.int (0 : Int32)), (.int (0 : Int32)), (.int (0 : Int32))] (.int (0 : Int32)) := V_b2_33
  have pre33 : ∀ t, Steps p.tables e below (T33.setTop (mkF m 46 #[.val (.int p1), .val (.int p2), .val (.int p3), .unset, .unset, .unset, .unset, .unset, .unset, .unset, .unset, .unset, .unset, .unset, .unset, .unset] [(.ref b2)])) t → Steps p.tables e below (s₁.setTop (entryFrame m #[(.int p1), (.int p2), (.int p3)] maxLocals)) t := fun t kt => pre32 t (st33 _ kt)
  have pre36 : ∀ t, Steps p.tables e below (T33.setTop (mkF m 51 #[.val (.int p1), .val (.int p2), .val (.int p3), .unset, .unset, .unset, .unset, .unset, .unset, .unset, .unset, .unset, .unset, .unset, .unset, .unset] [(.int (112 : Int32)), (.int (8 : Int32)), (.ref b2), (.ref b2)])) t → Steps p.tables e below (s₁.setTop (entryFrame m #[(.int p1), (.int p2), (.int p3)] maxLocals)) t := by
    intro t kt
    refine pre33 t ?_
    show Steps p.tables e below (T33.setTop (mkF m 46 #[.val (.int p1), .val (.int p2), .val (.int p3), .unset, .unset, .unset, .unset, .unset, .unset, .unset, .unset, .unset, .unset, .unset, .unset, .unset] [(.ref b2)])) _
    refine XS.dup X33.here hx rfl (hb hby at_46) rfl rfl ?_
    show Steps p.tables e below (T33.setTop (mkF m 47 #[.val (.int p1), .val (.int p2), .val (.int p3), .unset, .unset, .unset, .unset, .unset, .unset, .unset, .unset, .unset, .unset, .unset, .unset, .unset] [(.ref b2), (.ref b2)])) _
    refine XS.bipush X33.here hx rfl (hb hby at_47) ?_
    show Steps p.tables e below (T33.setTop (mkF m 49 #[.val (.int p1), .val (.int p2), .val (.int p3), .unset, .unset, .unset, .unset, .unset, .unset, .unset, .unset, .unset, .unset, .unset, .unset, .unset] [(.int (8 : Int32)), (.ref b2), (.ref b2)])) _
    refine XS.bipush X33.here hx rfl (hb hby at_49) ?_
    exact kt
  obtain ⟨cl37, Ar37, q37, S37, M37, H37, G37⟩ := (id V_b2_33')
  have hin37 : ¬ ((8 : Int32) < 0 ∨ cl37.slots.size ≤ ((8 : Int32)).toNatClampNeg) := inb_of S37 ⟨by decide, by decide⟩
  obtain ⟨T37, h37, X37, e37, W37, st37⟩ := stC X33 hx hZ e33 Ar37 (j := (8 : Int32)) hin37 (g := (mkF m 51 #[.val (.int p1), .val (.int p2), .val (.int p3), .unset, .unset, .unset, .unset, .unset, .unset, .unset, .unset, .unset, .unset, .unset, .unset, .unset] [(.int (112 : Int32)), (.int (8 : Int32)), (.ref b2), (.ref b2)])) rfl rfl (hb hby at_51)
  have V_b2_37 := Arv.set Ar37 q37 S37 M37 H37 G37 (fits_nar_char _) W37 8 rfl (Nat.le_of_ble_eq_true rfl)
  have N37 := Fr.snoc X37 N33 g_b2
  have K37 : Keep h0 h37 [] := K33.wr W37 (Or.inr sz_b2)
  have Z37 : n0 ≤ h37.size := Nat.le_trans Z33 (Keep.of_wr W37).1
  have SCS_38 := SCS_34.wr W37
  have V_b2_37' : Arv Z h37 b2 k2 .char (20 : Int32) [(.int (112 : Int32)), (.int (112 : Int32)), (.int (112 : Int32)), (.int (112 : Int32)), (.int (112 : Int32)), (.int (112 : Int32)), (.int (112 : Int32)), (.int (112 : Int32)), (.int (112 : Int32)), (.int (0 : Int32)), (.int (0 : Int32)), (.int (0 : Int32)), (.int (0 : Int32)), (.int (0 : Int32)), (.int (0 : Int32)), (.int (0 : Int32)), (.int (0 : Int32)), (.int (0 : Int32)), (.int (0 : Int32)), (.int (0 : Int32))] (.int (0 : Int32)) := V_b2_37
  have pre37 : ∀ t, Steps p.tables e below (T37.setTop (mkF m 52 #[.val (.int p1), .val (.int p2), .val (.int p3), .unset, .unset, .unset, .unset, .unset, .unset, .unset, .unset, .unset, .unset, .unset, .unset, .unset] [(.ref b2)])) t → Steps p.tables e below (s₁.setTop (entryFrame m #[(.int p1), (.int p2), (.int p3)] maxLocals)) t := fun t kt => pre36 t (st37 _ kt)
  have pre40 : ∀ t, Steps p.tables e below (T37.setTop (mkF m 57 #[.val (.int p1), .val (.int p2), .val (.int p3), .unset, .unset, .unset, .unset, .unset, .unset, .unset, .unset, .unset, .unset, .unset, .unset, .unset] [(.int (112 : Int32)), (.int (9 : Int32)), (.ref b2), (.ref b2)])) t → Steps p.tables e below (s₁.setTop (entryFrame m #[(.int p1), (.int p2), (.int p3)] maxLocals)) t := by
    intro t kt
    refine pre37 t ?_
    show Steps p.tables e below (T37.setTop (mkF m 52 #[.val (.int p1), .val (.int p2), .val (.int p3), .unset, .unset, .unset, .unset, .unset, .unset, .unset, .unset, .unset, .unset, .unset, .unset, .unset] [(.ref b2)])) _
    refine XS.dup X37.here hx rfl (hb hby at_52) rfl rfl ?_
    show Steps p.tables e below (T37.setTop (mkF m 53 #[.val (.int p1), .val (.int p2), .val (.int p3), .unset, .unset, .unset, .unset, .unset, .unset, .unset, .unset, .unset, .unset, .unset, .unset, .unset] [(.ref b2), (.ref b2)])) _
    refine XS.bipush X37.here hx rfl (hb hby at_53) ?_
    show Steps p.tables e below (T37.setTop (mkF m 55 #[.val (.int p1), .val (.int p2), .val (.int p3), .unset, .unset, .unset, .unset, .unset, .unset, .unset, .unset, .unset, .unset, .unset, .unset, .unset] [(.int (9 : Int32)), (.ref b2), (.ref b2)])) _
    refine XS.bipush X37.here hx rfl (hb hby at_55) ?_
    exact kt
  obtain ⟨cl41, Ar41, q41, S41, M41, H41, G41⟩ := (id V_b2_37')
  have hin41 : ¬ ((9 : Int32) < 0 ∨ cl41.slots.size ≤ ((9 : Int32)).toNatClampNeg) := inb_of S41 ⟨by decide, by decide⟩
  obtain ⟨T41, h41, X41, e41, W41, st41⟩ := stC X37 hx hZ e37 Ar41 (j := (9 : Int32)) hin41 (g := (mkF m 57 #[.val (.int p1), .val (.int p2), .val (.int p3), .unset, .unset, .unset, .unset, .unset, .unset, .unset, .unset, .unset, .unset, .unset, .unset, .unset] [(.int (112 : Int32)), (.int (9 : Int32)), (.ref b2), (.ref b2)])) rfl rfl (hb hby at_57)
  have V_b2_41 := Arv.set Ar41 q41 S41 M41 H41 G41 (fits_nar_char _) W41 9 rfl (Nat.le_of_ble_eq_true rfl)
  have N41 := Fr.snoc X41 N37 g_b2
  have K41 : Keep h0 h41 [] := K37.wr W41 (Or.inr sz_b2)
  have Z41 : n0 ≤ h41.size := Nat.le_trans Z37 (Keep.of_wr W41).1
  have SCS_42 := SCS_38.wr W41
  have V_b2_41' : Arv Z h41 b2 k2 .char (20 : Int32) [(.int (112 : Int32)), (.int (112 : Int32)), (.int (112 : Int32)), (.int (112 : Int32)), (.int (112 : Int32)), (.int (112 : Int32)), (.int (112 : Int32)), (.int (112 : Int32)), (.int (112 : Int32)), (.int (112 : Int32)), (.int (0 : Int32)), (.int (0 : Int32)), (.int (0 : Int32)), (.int (0 : Int32)), (.int (0 : Int32)), (.int (0 : Int32)), (.int (0 : Int32)), (.int (0 : Int32)), (.int (0 : Int32)), (.int (0 : Int32))] (.int (0 : Int32)) := V_b2_41
  have pre41 : ∀ t, Steps p.tables e below (T41.setTop (mkF m 58 #[.val (.int p1), .val (.int p2), .val (.int p3), .unset, .unset, .unset, .unset, .unset, .unset, .unset, .unset, .unset, .unset, .unset, .unset, .unset] [(.ref b2)])) t → Steps p.tables e below (s₁.setTop (entryFrame m #[(.int p1), (.int p2), (.int p3)] maxLocals)) t := fun t kt => pre40 t (st41 _ kt)
  have pre44 : ∀ t, Steps p.tables e below (T41.setTop (mkF m 63 #[.val (.int p1), .val (.int p2), .val (.int p3), .unset, .unset, .unset, .unset, .unset, .unset, .unset, .unset, .unset, .unset, .unset, .unset, .unset] [(.int (112 : Int32)), (.int (10 : Int32)), (.ref b2), (.ref b2)])) t → Steps p.tables e below (s₁.setTop (entryFrame m #[(.int p1), (.int p2), (.int p3)] maxLocals)) t := by
    intro t kt
    refine pre41 t ?_
    show Steps p.tables e below (T41.setTop (mkF m 58 #[.val (.int p1), .val (.int p2), .val (.int p3), .unset, .unset, .unset, .unset, .unset, .unset, .unset, .unset, .unset, .unset, .unset, .unset, .unset] [(.ref b2)])) _
    refine XS.dup X41.here hx rfl (hb hby at_58) rfl rfl ?_
    show Steps p.tables e below (T41.setTop (mkF m 59 #[.val (.int p1), .val (.int p2), .val (.int p3), .unset, .unset, .unset, .unset, .unset, .unset, .unset, .unset, .unset, .unset, .unset, .unset, .unset] [(.ref b2), (.ref b2)])) _
    refine XS.bipush X41.here hx rfl (hb hby at_59) ?_
    show Steps p.tables e below (T41.setTop (mkF m 61 #[.val (.int p1), .val (.int p2), .val (.int p3), .unset, .unset, .unset, .unset, .unset, .unset, .unset, .unset, .unset, .unset, .unset, .unset, .unset] [(.int (10 : Int32)), (.ref b2), (.ref b2)])) _
    refine XS.bipush X41.here hx rfl (hb hby at_61) ?_
    exact kt
  obtain ⟨cl45, Ar45, q45, S45, M45, H45, G45⟩ := (id V_b2_41')
  have hin45 : ¬ ((10 : Int32) < 0 ∨ cl45.slots.size ≤ ((10 : Int32)).toNatClampNeg) := inb_of S45 ⟨by decide, by decide⟩
  obtain ⟨T45, h45, X45, e45, W45, st45⟩ := stC X41 hx hZ e41 Ar45 (j := (10 : Int32)) hin45 (g := (mkF m 63 #[.val (.int p1), .val (.int p2), .val (.int p3), .unset, .unset, .unset, .unset, .unset, .unset, .unset, .unset, .unset, .unset, .unset, .unset, .unset] [(.int (112 : Int32)), (.int (10 : Int32)), (.ref b2), (.ref b2)])) rfl rfl (hb hby at_63)
  have V_b2_45 := Arv.set Ar45 q45 S45 M45 H45 G45 (fits_nar_char _) W45 10 rfl (Nat.le_of_ble_eq_true rfl)
  have N45 := Fr.snoc X45 N41 g_b2
  have K45 : Keep h0 h45 [] := K41.wr W45 (Or.inr sz_b2)
  have Z45 : n0 ≤ h45.size := Nat.le_trans Z41 (Keep.of_wr W45).1
  have SCS_46 := SCS_42.wr W45
  have V_b2_45' : Arv Z h45 b2 k2 .char (20 : Int32) [(.int (112 : Int32)), (.int (112 : Int32)), (.int (112 : Int32)), (.int (112 : Int32)), (.int (112 : Int32)), (.int (112 : Int32)), (.int (112 : Int32)), (.int (112 : Int32)), (.int (112 : Int32)), (.int (112 : Int32)), (.int (112 : Int32)), (.int (0 : Int32)), (.int (0 : Int32)), (.int (0 : Int32)), (.int (0 : Int32)), (.int (0 : Int32)), (.int (0 : Int32)), (.int (0 : Int32)), (.int (0 : Int32)), (.int (0 : Int32))] (.int (0 : Int32)) := V_b2_45
  have pre45 : ∀ t, Steps p.tables e below (T45.setTop (mkF m 64 #[.val (.int p1), .val (.int p2), .val (.int p3), .unset, .unset, .unset, .unset, .unset, .unset, .unset, .unset, .unset, .unset, .unset, .unset, .unset] [(.ref b2)])) t → Steps p.tables e below (s₁.setTop (entryFrame m #[(.int p1), (.int p2), (.int p3)] maxLocals)) t := fun t kt => pre44 t (st45 _ kt)
  have pre48 : ∀ t, Steps p.tables e below (T45.setTop (mkF m 69 #[.val (.int p1), .val (.int p2), .val (.int p3), .unset, .unset, .unset, .unset, .unset, .unset, .unset, .unset, .unset, .unset, .unset, .unset, .unset] [(.int (112 : Int32)), (.int (11 : Int32)), (.ref b2), (.ref b2)])) t → Steps p.tables e below (s₁.setTop (entryFrame m #[(.int p1), (.int p2), (.int p3)] maxLocals)) t := by
    intro t kt
    refine pre45 t ?_
    show Steps p.tables e below (T45.setTop (mkF m 64 #[.val (.int p1), .val (.int p2), .val (.int p3), .unset, .unset, .unset, .unset, .unset, .unset, .unset, .unset, .unset, .unset, .unset, .unset, .unset] [(.ref b2)])) _
    refine XS.dup X45.here hx rfl (hb hby at_64) rfl rfl ?_
    show Steps p.tables e below (T45.setTop (mkF m 65 #[.val (.int p1), .val (.int p2), .val (.int p3), .unset, .unset, .unset, .unset, .unset, .unset, .unset, .unset, .unset, .unset, .unset, .unset, .unset] [(.ref b2), (.ref b2)])) _
    refine XS.bipush X45.here hx rfl (hb hby at_65) ?_
    show Steps p.tables e below (T45.setTop (mkF m 67 #[.val (.int p1), .val (.int p2), .val (.int p3), .unset, .unset, .unset, .unset, .unset, .unset, .unset, .unset, .unset, .unset, .unset, .unset, .unset] [(.int (11 : Int32)), (.ref b2), (.ref b2)])) _
    refine XS.bipush X45.here hx rfl (hb hby at_67) ?_
    exact kt
  obtain ⟨cl49, Ar49, q49, S49, M49, H49, G49⟩ := (id V_b2_45')
  have hin49 : ¬ ((11 : Int32) < 0 ∨ cl49.slots.size ≤ ((11 : Int32)).toNatClampNeg) := inb_of S49 ⟨by decide, by decide⟩
  obtain ⟨T49, h49, X49, e49, W49, st49⟩ := stC X45 hx hZ e45 Ar49 (j := (11 : Int32)) hin49 (g := (mkF m 69 #[.val (.int p1), .val (.int p2), .val (.int p3), .unset, .unset, .unset, .unset, .unset, .unset, .unset, .unset, .unset, .unset, .unset, .unset, .unset] [(.int (112 : Int32)), (.int (11 : Int32)), (.ref b2), (.ref b2)])) rfl rfl (hb hby at_69)
  have V_b2_49 := Arv.set Ar49 q49 S49 M49 H49 G49 (fits_nar_char _) W49 11 rfl (Nat.le_of_ble_eq_true rfl)
  have N49 := Fr.snoc X49 N45 g_b2
  have K49 : Keep h0 h49 [] := K45.wr W49 (Or.inr sz_b2)
  have Z49 : n0 ≤ h49.size := Nat.le_trans Z45 (Keep.of_wr W49).1
  have SCS_50 := SCS_46.wr W49
  have V_b2_49' : Arv Z h49 b2 k2 .char (20 : Int32) [(.int (112 : Int32)), (.int (112 : Int32)), (.int (112 : Int32)), (.int (112 : Int32)), (.int (112 : Int32)), (.int (112 : Int32)), (.int (112 : Int32)), (.int (112 : Int32)), (.int (112 : Int32)), (.int (112 : Int32)), (.int (112 : Int32)), (.int (112 : Int32)), (.int (0 : Int32)), (.int (0 : Int32)), (.int (0 : Int32)), (.int (0 : Int32)), (.int (0 : Int32)), (.int (0 : Int32)), (.int (0 : Int32)), (.int (0 : Int32))] (.int (0 : Int32)) := V_b2_49
  have pre49 : ∀ t, Steps p.tables e below (T49.setTop (mkF m 70 #[.val (.int p1), .val (.int p2), .val (.int p3), .unset, .unset, .unset, .unset, .unset, .unset, .unset, .unset, .unset, .unset, .unset, .unset, .unset] [(.ref b2)])) t → Steps p.tables e below (s₁.setTop (entryFrame m #[(.int p1), (.int p2), (.int p3)] maxLocals)) t := fun t kt => pre48 t (st49 _ kt)
  have pre52 : ∀ t, Steps p.tables e below (T49.setTop (mkF m 75 #[.val (.int p1), .val (.int p2), .val (.int p3), .unset, .unset, .unset, .unset, .unset, .unset, .unset, .unset, .unset, .unset, .unset, .unset, .unset] [(.int (112 : Int32)), (.int (12 : Int32)), (.ref b2), (.ref b2)])) t → Steps p.tables e below (s₁.setTop (entryFrame m #[(.int p1), (.int p2), (.int p3)] maxLocals)) t := by
    intro t kt
    refine pre49 t ?_
    show Steps p.tables e below (T49.setTop (mkF m 70 #[.val (.int p1), .val (.int p2), .val (.int p3), .unset, .unset, .unset, .unset, .unset, .unset, .unset, .unset, .unset, .unset, .unset, .unset, .unset] [(.ref b2)])) _
    refine XS.dup X49.here hx rfl (hb hby at_70) rfl rfl ?_
    show Steps p.tables e below (T49.setTop (mkF m 71 #[.val (.int p1), .val (.int p2), .val (.int p3), .unset, .unset, .unset, .unset, .unset, .unset, .unset, .unset, .unset, .unset, .unset, .unset, .unset] [(.ref b2), (.ref b2)])) _
    refine XS.bipush X49.here hx rfl (hb hby at_71) ?_
    show Steps p.tables e below (T49.setTop (mkF m 73 #[.val (.int p1), .val (.int p2), .val (.int p3), .unset, .unset, .unset, .unset, .unset, .unset, .unset, .unset, .unset, .unset, .unset, .unset, .unset] [(.int (12 : Int32)), (.ref b2), (.ref b2)])) _
    refine XS.bipush X49.here hx rfl (hb hby at_73) ?_
    exact kt
  obtain ⟨cl53, Ar53, q53, S53, M53, H53, G53⟩ := (id V_b2_49')
  have hin53 : ¬ ((12 : Int32) < 0 ∨ cl53.slots.size ≤ ((12 : Int32)).toNatClampNeg) := inb_of S53 ⟨by decide, by decide⟩
  obtain ⟨T53, h53, X53, e53, W53, st53⟩ := stC X49 hx hZ e49 Ar53 (j := (12 : Int32)) hin53 (g := (mkF m 75 #[.val (.int p1), .val (.int p2), .val (.int p3), .unset, .unset, .unset, .unset, .unset, .unset, .unset, .unset, .unset, .unset, .unset, .unset, .unset] [(.int (112 : Int32)), (.int (12 : Int32)), (.ref b2), (.ref b2)])) rfl rfl (hb hby at_75)
  have V_b2_53 := Arv.set Ar53 q53 S53 M53 H53 G53 (fits_nar_char _) W53 12 rfl (Nat.le_of_ble_eq_true rfl)
  have N53 := Fr.snoc X53 N49 g_b2
  have K53 : Keep h0 h53 [] := K49.wr W53 (Or.inr sz_b2)
  have Z53 : n0 ≤ h53.size := Nat.le_trans Z49 (Keep.of_wr W53).1
  have SCS_54 := SCS_50.wr W53
  have V_b2_53' : Arv Z h53 b2 k2 .char (20 : Int32) [(.int (112 : Int32)), (.int (112 : Int32)), (.int (112 : Int32)), (.int (112 : Int32)), (.int (112 : Int32)), (.int (112 : Int32)), (.int (112 : Int32)), (.int (112 : Int32)), (.int (112 : Int32)), (.int (112 : Int32)), (.int (112 : Int32)), (.int (112 : Int32)), (.int (112 : Int32)), (.int (0 : Int32)), (.int (0 : Int32)), (.int (0 : Int32)), (.int (0 : Int32)), (.int (0 : Int32)), (.int (0 : Int32)), (.int (0 : Int32))] (.int (0 : Int32)) := V_b2_53
  have pre53 : ∀ t, Steps p.tables e below (T53.setTop (mkF m 76 #[.val (.int p1), .val (.int p2), .val (.int p3), .unset, .unset, .unset, .unset, .unset, .unset, .unset, .unset, .unset, .unset, .unset, .unset, .unset] [(.ref b2)])) t → Steps p.tables e below (s₁.setTop (entryFrame m #[(.int p1), (.int p2), (.int p3)] maxLocals)) t := fun t kt => pre52 t (st53 _ kt)
  have pre56 : ∀ t, Steps p.tables e below (T53.setTop (mkF m 81 #[.val (.int p1), .val (.int p2), .val (.int p3), .unset, .unset, .unset, .unset, .unset, .unset, .unset, .unset, .unset, .unset, .unset, .unset, .unset] [(.int (112 : Int32)), (.int (13 : Int32)), (.ref b2), (.ref b2)])) t → Steps p.tables e below (s₁.setTop (entryFrame m #[(.int p1), (.int p2), (.int p3)] maxLocals)) t := by
    intro t kt
    refine pre53 t ?_
    show Steps p.tables e below (T53.setTop (mkF m 76 #[.val (.int p1), .val (.int p2), .val (.int p3), .unset, .unset, .unset, .unset, .unset, .unset, .unset, .unset, .unset, .unset, .unset, .unset, .unset] [(.ref b2)])) _
    refine XS.dup X53.here hx rfl (hb hby at_76) rfl rfl ?_
    show Steps p.tables e below (T53.setTop (mkF m 77 #[.val (.int p1), .val (.int p2), .val (.int p3), .unset, .unset, .unset, .unset, .unset, .unset, .unset, .unset, .unset, .unset, .unset, .unset, .unset] [(.ref b2), (.ref b2)])) _
    refine XS.bipush X53.here hx rfl (hb hby at_77) ?_
    show Steps p.tables e below (T53.setTop (mkF m 79 #[.val (.int p1), .val (.int p2), .val (.int p3), .unset, .unset, .unset, .unset, .unset, .unset, .unset, .unset, .unset, .unset, .unset, .unset, .unset] [(.int (13 : Int32)), (.ref b2), (.ref b2)])) _
    refine XS.bipush X53.here hx rfl (hb hby at_79) ?_
    exact kt
  obtain ⟨cl57, Ar57, q57, S57, M57, H57, G57⟩ := (id V_b2_53')
  have hin57 : ¬ ((13 : Int32) < 0 ∨ cl57.slots.size ≤ ((13 : Int32)).toNatClampNeg) := inb_of S57 ⟨by decide, by decide⟩
  obtain ⟨T57, h57, X57, e57, W57, st57⟩ := stC X53 hx hZ e53 Ar57 (j := (13 : Int32)) hin57 (g := (mkF m 81 #[.val (.int p1), .val (.int p2), .val (.int p3), .unset, .unset, .unset, .unset, .unset, .unset, .unset, .unset, .unset, .unset, .unset, .unset, .unset] [(.int (112 : Int32)), (.int (13 : Int32)), (.ref b2), (.ref b2)])) rfl rfl (hb hby at_81)
  have V_b2_57 := Arv.set Ar57 q57 S57 M57 H57 G57 (fits_nar_char _) W57 13 rfl (Nat.le_of_ble_eq_true rfl)
  have N57 := Fr.snoc X57 N53 g_b2
  have K57 : Keep h0 h57 [] := K53.wr W57 (Or.inr sz_b2)
  have Z57 : n0 ≤ h57.size := Nat.le_trans Z53 (Keep.of_wr W57).1
  have SCS_58 := SCS_54.wr W57
  have V_b2_57' : Arv Z h57 b2 k2 .char (20 : Int32) [(.int (112 : Int32)), (.int (112 : Int32)), (.int (112 : Int32)), (.int (112 : Int32)), (.int (112 : Int32)), (.int (112 : Int32)), (.int (112 : Int32)), (.int (112 : Int32)), (.int (112 : Int32)), (.int (112 : Int32)), (.int (112 : Int32)), (.int (112 : Int32)), (.int (112 : Int32)), (.int (112 : Int32)), (.int (0 : Int32)), (.int (0 : Int32)), (.int (0 : Int32)), (.int (0 : Int32)), (.int (0 : Int32)), (.int (0 : Int32))] (.int (0 : Int32)) := V_b2_57
  have pre57 : ∀ t, Steps p.tables e below (T57.setTop (mkF m 82 #[.val (.int p1), .val (.int p2), .val (.int p3), .unset, .unset, .unset, .unset, .unset, .unset, .unset, .unset, .unset, .unset, .unset, .unset, .unset] [(.ref b2)])) t → Steps p.tables e below (s₁.setTop (entryFrame m #[(.int p1), (.int p2), (.int p3)] maxLocals)) t := fun t kt => pre56 t (st57 _ kt)
  have pre60 : ∀ t, Steps p.tables e below (T57.setTop (mkF m 87 #[.val (.int p1), .val (.int p2), .val (.int p3), .unset, .unset, .unset, .unset, .unset, .unset, .unset, .unset, .unset, .unset, .unset, .unset, .unset] [(.int (112 : Int32)), (.int (14 : Int32)), (.ref b2), (.ref b2)])) t → Steps p.tables e below (s₁.setTop (entryFrame m #[(.int p1), (.int p2), (.int p3)] maxLocals)) t := by
    intro t kt
    refine pre57 t ?_
    show Steps p.tables e below (T57.setTop (mkF m 82 #[.val (.int p1), .val (.int p2), .val (.int p3), .unset, .unset, .unset, .unset, .unset, .unset, .unset, .unset, .unset, .unset, .unset, .unset, .unset] [(.ref b2)])) _
    refine XS.dup X57.here hx rfl (hb hby at_82) rfl rfl ?_
    show Steps p.tables e below (T57.setTop (mkF m 83 #[.val (.int p1), .val (.int p2), .val (.int p3), .unset, .unset, .unset, .unset, .unset, .unset, .unset, .unset, .unset, .unset, .unset, .unset, .unset] [(.ref b2), (.ref b2)])) _
    refine XS.bipush X57.here hx rfl (hb hby at_83) ?_
    show Steps p.tables e below (T57.setTop (mkF m 85 #[.val (.int p1), .val (.int p2), .val (.int p3), .unset, .unset, .unset, .unset, .unset, .unset, .unset, .unset, .unset, .unset, .unset, .unset, .unset] [(.int (14 : Int32)), (.ref b2), (.ref b2)])) _
    refine XS.bipush X57.here hx rfl (hb hby at_85) ?_
    exact kt
  obtain ⟨cl61, Ar61, q61, S61, M61, H61, G61⟩ := (id V_b2_57')
  have hin61 : ¬ ((14 : Int32) < 0 ∨ cl61.slots.size ≤ ((14 : Int32)).toNatClampNeg) := inb_of S61 ⟨by decide, by decide⟩
  obtain ⟨T61, h61, X61, e61, W61, st61⟩ := stC X57 hx hZ e57 Ar61 (j := (14 : Int32)) hin61 (g := (mkF m 87 #[.val (.int p1), .val (.int p2), .val (.int p3), .unset, .unset, .unset, .unset, .unset, .unset, .unset, .unset, .unset, .unset, .unset, .unset, .unset] [(.int (112 : Int32)), (.int (14 : Int32)), (.ref b2), (.ref b2)])) rfl rfl (hb hby at_87)
  have V_b2_61 := Arv.set Ar61 q61 S61 M61 H61 G61 (fits_nar_char _) W61 14 rfl (Nat.le_of_ble_eq_true rfl)
  have N61 := Fr.snoc X61 N57 g_b2
  have K61 : Keep h0 h61 [] := K57.wr W61 (Or.inr sz_b2)
  have Z61 : n0 ≤ h61.size := Nat.le_trans Z57 (Keep.of_wr W61).1
  have SCS_62 := SCS_58.wr W61
  have V_b2_61' : Arv Z h61 b2 k2 .char (20 : Int32) [(.int (112 : Int32)), (.int (112 : Int32)), (.int (112 : Int32)), (.int (112 : Int32)), (.int (112 : Int32)), (.int (112 : Int32)), (.int (112 : Int32)), (.int (112 : Int32)), (.int (112 : Int32)), (.int (112 : Int32)), (.int (112 : Int32)), (.int (112 : Int32)), (.int (112 : Int32)), (.int (112 : Int32)), (.int (112 : Int32)), (.int (0 : Int32)), (.int (0 : Int32)), (.int (0 : Int32)), (.int (0 : Int32)), (.int (0 : Int32))] (.int (0 : Int32)) := V_b2_61
  have pre61 : ∀ t, Steps p.tables e below (T61.setTop (mkF m 88 #[.val (.int p1), .val (.int p2), .val (.int p3), .unset, .unset, .unset, .unset, .unset, .unset, .unset, .unset, .unset, .unset, .unset, .unset, .unset] [(.ref b2)])) t → Steps p.tables e below (s₁.setTop (entryFrame m #[(.int p1), (.int p2), (.int p3)] maxLocals)) t := fun t kt => pre60 t (st61 _ kt)
  have pre64 : ∀ t, Steps p.tables e below (T61.setTop (mkF m 93 #[.val (.int p1), .val (.int p2), .val (.int p3), .unset, .unset, .unset, .unset, .unset, .unset, .unset, .unset, .unset, .unset, .unset, .unset, .unset] [(.int (112 : Int32)), (.int (15 : Int32)), (.ref b2), (.ref b2)])) t → Steps p.tables e below (s₁.setTop (entryFrame m #[(.int p1), (.int p2), (.int p3)] maxLocals)) t := by
    intro t kt
    refine pre61 t ?_
    show Steps p.tables e below (T61.setTop (mkF m 88 #[.val (.int p1), .val (.int p2), .val (.int p3), .unset, .unset, .unset, .unset, .unset, .unset, .unset, .unset, .unset, .unset, .unset, .unset, .unset] [(.ref b2)])) _
    refine XS.dup X61.here hx rfl (hb hby at_88) rfl rfl ?_
    show Steps p.tables e below (T61.setTop (mkF m 89 #[.val (.int p1), .val (.int p2), .val (.int p3), .unset, .unset, .unset, .unset, .unset, .unset, .unset, .unset, .unset, .unset, .unset, .unset, .unset] [(.ref b2), (.ref b2)])) _
    refine XS.bipush X61.here hx rfl (hb hby at_89) ?_
    show Steps p.tables e below (T61.setTop (mkF m 91 #[.val (.int p1), .val (.int p2), .val (.int p3), .unset, .unset, .unset, .unset, .unset, .unset, .unset, .unset, .unset, .unset, .unset, .unset, .unset] [(.int (15 : Int32)), (.ref b2), (.ref b2)])) _
    refine XS.bipush X61.here hx rfl (hb hby at_91) ?_
    exact kt
  obtain ⟨cl65, Ar65, q65, S65, M65, H65, G65⟩ := (id V_b2_61')
  have hin65 : ¬ ((15 : Int32) < 0 ∨ cl65.slots.size ≤ ((15 : Int32)).toNatClampNeg) := inb_of S65 ⟨by decide, by decide⟩
  obtain ⟨T65, h65, X65, e65, W65, st65⟩ := stC X61 hx hZ e61 Ar65 (j := (15 : Int32)) hin65 (g := (mkF m 93 #[.val (.int p1), .val (.int p2), .val (.int p3), .unset, .unset, .unset, .unset, .unset, .unset, .unset, .unset, .unset, .unset, .unset, .unset, .unset] [(.int (112 : Int32)), (.int (15 : Int32)), (.ref b2), (.ref b2)])) rfl rfl (hb hby at_93)
  have V_b2_65 := Arv.set Ar65 q65 S65 M65 H65 G65 (fits_nar_char _) W65 15 rfl (Nat.le_of_ble_eq_true rfl)
  have N65 := Fr.snoc X65 N61 g_b2
  have K65 : Keep h0 h65 [] := K61.wr W65 (Or.inr sz_b2)
  have Z65 : n0 ≤ h65.size := Nat.le_trans Z61 (Keep.of_wr W65).1
  have SCS_66 := SCS_62.wr W65
  have V_b2_65' : Arv Z h65 b2 k2 .char (20 : Int32) [(.int (112 : Int32)), (.int (112 : Int32)), (.int (112 : Int32)), (.int (112 : Int32)), (.int (112 : Int32)), (.int (112 : Int32)), (.int (112 : Int32)), (.int (112 : Int32)), (.int (112 : Int32)), (.int (112 : Int32)), (.int (112 : Int32)), (.int (112 : Int32)), (.int (112 : Int32)), (.int (112 : Int32)), (.int (112 : Int32)), (.int (112 : Int32)), (.int (0 : Int32)), (.int (0 : Int32)), (.int (0 : Int32)), (.int (0 : Int32))] (.int (0 : Int32)) := V_b2_65
  have pre65 : ∀ t, Steps p.tables e below (T65.setTop (mkF m 94 #[.val (.int p1), .val (.int p2), .val (.int p3), .unset, .unset, .unset, .unset, .unset, .unset, .unset, .unset, .unset, .unset, .unset, .unset, .unset] [(.ref b2)])) t → Steps p.tables e below (s₁.setTop (entryFrame m #[(.int p1), (.int p2), (.int p3)] maxLocals)) t := fun t kt => pre64 t (st65 _ kt)
  have pre68 : ∀ t, Steps p.tables e below (T65.setTop (mkF m 99 #[.val (.int p1), .val (.int p2), .val (.int p3), .unset, .unset, .unset, .unset, .unset, .unset, .unset, .unset, .unset, .unset, .unset, .unset, .unset] [(.int (112 : Int32)), (.int (16 : Int32)), (.ref b2), (.ref b2)])) t → Steps p.tables e below (s₁.setTop (entryFrame m #[(.int p1), (.int p2), (.int p3)] maxLocals)) t := by
    intro t kt
    refine pre65 t ?_
    show Steps p.tables e below (T65.setTop (mkF m 94 #[.val (.int p1), .val (.int p2), .val (.int p3), .unset, .unset, .unset, .unset, .unset, .unset, .unset, .unset, .unset, .unset, .unset, .unset, .unset] [(.ref b2)])) _
    refine XS.dup X65.here hx rfl (hb hby at_94) rfl rfl ?_
    show Steps p.tables e below (T65.setTop (mkF m 95 #[.val (.int p1), .val (.int p2), .val (.int p3), .unset, .unset, .unset, .unset, .unset, .unset, .unset, .unset, .unset, .unset, .unset, .unset, .unset] [(.ref b2), (.ref b2)])) _
    refine XS.bipush X65.here hx rfl (hb hby at_95) ?_
    show Steps p.tables e below (T65.setTop (mkF m 97 #[.val (.int p1), .val (.int p2), .val (.int p3), .unset, .unset, .unset, .unset, .unset, .unset, .unset, .unset, .unset, .unset, .unset, .unset, .unset] [(.int (16 : Int32)), (.ref b2), (.ref b2)])) _
    refine XS.bipush X65.here hx rfl (hb hby at_97) ?_
    exact kt
  obtain ⟨cl69, Ar69, q69, S69, M69, H69, G69⟩ := (id V_b2_65')
  have hin69 : ¬ ((16 : Int32) < 0 ∨ cl69.slots.size ≤ ((16 : Int32)).toNatClampNeg) := inb_of S69 ⟨by decide, by decide⟩
  obtain ⟨T69, h69, X69, e69, W69, st69⟩ := stC X65 hx hZ e65 Ar69 (j := (16 : Int32)) hin69 (g := (mkF m 99 #[.val (.int p1), .val (.int p2), .val (.int p3), .unset, .unset, .unset, .unset, .unset, .unset, .unset, .unset, .unset, .unset, .unset, .unset, .unset] [(.int (112 : Int32)), (.int (16 : Int32)), (.ref b2), (.ref b2)])) rfl rfl (hb hby at_99)
  have V_b2_69 := Arv.set Ar69 q69 S69 M69 H69 G69 (fits_nar_char _) W69 16 rfl (Nat.le_of_ble_eq_true rfl)
  have N69 := Fr.snoc X69 N65 g_b2
  have K69 : Keep h0 h69 [] := K65.wr W69 (Or.inr sz_b2)
  have Z69 : n0 ≤ h69.size := Nat.le_trans Z65 (Keep.of_wr W69).1
  have SCS_70 := SCS_66.wr W69
  have V_b2_69' : Arv Z h69 b2 k2 .char (20 : Int32) [(.int (112 : Int32)), (.int (112 : Int32)), (.int (112 : Int32)), (.int (112 : Int32)), (.int (112 : Int32)), (.int (112 : Int32)), (.int (112 : Int32)), (.int (112 : Int32)), (.int (112 : Int32)), (.int (112 : Int32)), (.int (112 : Int32)), (.int (112 : Int32)), (.int (112 : Int32)), (.int (112 : Int32)), (.int (112 : Int32)), (.int (112 : Int32)), (.int (112 : Int32)), (.int (0 : Int32)), (.int (0 : Int32)), (.int (0 : Int32))] (.int (0 : Int32)) := V_b2_69
  have pre69 : ∀ t, Steps p.tables e below (T69.setTop (mkF m 100 #[.val (.int p1), .val (.int p2), .val (.int p3), .unset, .unset, .unset, .unset, .unset, .unset, .unset, .unset, .unset, .unset, .unset, .unset, .unset] [(.ref b2)])) t → Steps p.tables e below (s₁.setTop (entryFrame m #[(.int p1), (.int p2), (.int p3)] maxLocals)) t := fun t kt => pre68 t (st69 _ kt)
  have pre72 : ∀ t, Steps p.tables e below (T69.setTop (mkF m 105 #[.val (.int p1), .val (.int p2), .val (.int p3), .unset, .unset, .unset, .unset, .unset, .unset, .unset, .unset, .unset, .unset, .unset, .unset, .unset] [(.int (112 : Int32)), (.int (17 : Int32)), (.ref b2), (.ref b2)])) t → Steps p.tables e below (s₁.setTop (entryFrame m #[(.int p1), (.int p2), (.int p3)] maxLocals)) t := by
    intro t kt
    refine pre69 t ?_
    show Steps p.tables e below (T69.setTop (mkF m 100 #[.val (.int p1), .val (.int p2), .val (.int p3), .unset, .unset, .unset, .unset, .unset, .unset, .unset, .unset, .unset, .unset, .unset, .unset, .unset] [(.ref b2)])) _
    refine XS.dup X69.here hx rfl (hb hby at_100) rfl rfl ?_
    show Steps p.tables e below (T69.setTop (mkF m 101 #[.val (.int p1), .val (.int p2), .val (.int p3), .unset, .unset, .unset, .unset, .unset, .unset, .unset, .unset, .unset, .unset, .unset, .unset, .unset] [(.ref b2), (.ref b2)])) _
    refine XS.bipush X69.here hx rfl (hb hby at_101) ?_
    show Steps p.tables e below (T69.setTop (mkF m 103 #[.val (.int p1), .val (.int p2), .val (.int p3), .unset, .unset, .unset, .unset, .unset, .unset, .unset, .unset, .unset, .unset, .unset, .unset, .unset] [(.int (17 : Int32)), (.ref b2), (.ref b2)])) _
    refine XS.bipush X69.here hx rfl (hb hby at_103) ?_
    exact kt
  obtain ⟨cl73, Ar73, q73, S73, M73, H73, G73⟩ := (id V_b2_69')
  have hin73 : ¬ ((17 : Int32) < 0 ∨ cl73.slots.size ≤ ((17 : Int32)).toNatClampNeg) := inb_of S73 ⟨by decide, by decide⟩
  obtain ⟨T73, h73, X73, e73, W73, st73⟩ := stC X69 hx hZ e69 Ar73 (j := (17 : Int32)) hin73 (g := (mkF m 105 #[.val (.int p1), .val (.int p2), .val (.int p3), .unset, .unset, .unset, .unset, .unset, .unset, .unset, .unset, .unset, .unset, .unset, .unset, .unset] [(.int (112 : Int32)), (.int (17 : Int32)), (.ref b2), (.ref b2)])) rfl rfl (hb hby at_105)
  have V_b2_73 := Arv.set Ar73 q73 S73 M73 H73 G73 (fits_nar_char _) W73 17 rfl (Nat.le_of_ble_eq_true rfl)
  have N73 := Fr.snoc X73 N69 g_b2
  have K73 : Keep h0 h73 [] := K69.wr W73 (Or.inr sz_b2)
  have Z73 : n0 ≤ h73.size := Nat.le_trans Z69 (Keep.of_wr W73).1
  have SCS_74 := SCS_70.wr W73
  have V_b2_73' : Arv Z h73 b2 k2 .char (20 : Int32) [(.int (112 : Int32)), (.int (112 : Int32)), (.int (112 : Int32)), (.int (112 : Int32)), (.int (112 : Int32)), (.int (112 : Int32)), (.int (112 : Int32)), (.int (112 : Int32)), (.int (112 : Int32)), (.int (112 : Int32)), (.int (112 : Int32)), (.int (112 : Int32)), (.int (112 : Int32)), (.int (112 : Int32)), (.int (112 : Int32)), (.int (112 : Int32)), (.int (112 : Int32)), (.int (112 : Int32)), (.int (0 : Int32)), (.int (0 : Int32))] (.int (0 : Int32)) := V_b2_73
  have pre73 : ∀ t, Steps p.tables e below (T73.setTop (mkF m 106 #[.val (.int p1), .val (.int p2), .val (.int p3), .unset, .unset, .unset, .unset, .unset, .unset, .unset, .unset, .unset, .unset, .unset, .unset, .unset] [(.ref b2)])) t → Steps p.tables e below (s₁.setTop (entryFrame m #[(.int p1), (.int p2), (.int p3)] maxLocals)) t := fun t kt => pre72 t (st73 _ kt)
  have pre76 : ∀ t, Steps p.tables e below (T73.setTop (mkF m 111 #[.val (.int p1), .val (.int p2), .val (.int p3), .unset, .unset, .unset, .unset, .unset, .unset, .unset, .unset, .unset, .unset, .unset, .unset, .unset] [(.int (112 : Int32)), (.int (18 : Int32)), (.ref b2), (.ref b2)])) t → Steps p.tables e below (s₁.setTop (entryFrame m #[(.int p1), (.int p2), (.int p3)] maxLocals)) t := by
    intro t kt
    refine pre73 t ?_
    show Steps p.tables e below (T73.setTop (mkF m 106 #[.val (.int p1), .val (.int p2), .val (.int p3), .unset, .unset, .unset, .unset, .unset, .unset, .unset, .unset, .unset, .unset, .unset, .unset, .unset] [(.ref b2)])) _
    refine XS.dup X73.here hx rfl (hb hby at_106) rfl rfl ?_
    show Steps p.tables e below (T73.setTop (mkF m 107 #[.val (.int p1), .val (.int p2), .val (.int p3), .unset, .unset, .unset, .unset, .unset, .unset, .unset, .unset, .unset, .unset, .unset, .unset, .unset] [(.ref b2), (.ref b2)])) _
    refine XS.bipush X73.here hx rfl (hb hby at_107) ?_
    show Steps p.tables e below (T73.setTop (mkF m 109 #[.val (.int p1), .val (.int p2), .val (.int p3), .unset, .unset, .unset, .unset, .unset, .unset, .unset, .unset, .unset, .unset, .unset, .unset, .unset] [(.int (18 : Int32)), (.ref b2), (.ref b2)])) _
    refine XS.bipush X73.here hx rfl (hb hby at_109) ?_
    exact kt
  obtain ⟨cl77, Ar77, q77, S77, M77, H77, G77⟩ := (id V_b2_73')
  have hin77 : ¬ ((18 : Int32) < 0 ∨ cl77.slots.size ≤ ((18 : Int32)).toNatClampNeg) := inb_of S77 ⟨by decide, by decide⟩
  obtain ⟨T77, h77, X77, e77, W77, st77⟩ := stC X73 hx hZ e73 Ar77 (j := (18 : Int32)) hin77 (g := (mkF m 111 #[.val (.int p1), .val (.int p2), .val (.int p3), .unset, .unset, .unset, .unset, .unset, .unset, .unset, .unset, .unset, .unset, .unset, .unset, .unset] [(.int (112 : Int32)), (.int (18 : Int32)), (.ref b2), (.ref b2)])) rfl rfl (hb hby at_111)
  have V_b2_77 := Arv.set Ar77 q77 S77 M77 H77 G77 (fits_nar_char _) W77 18 rfl (Nat.le_of_ble_eq_true rfl)
  have N77 := Fr.snoc X77 N73 g_b2
  have K77 : Keep h0 h77 [] := K73.wr W77 (Or.inr sz_b2)
  have Z77 : n0 ≤ h77.size := Nat.le_trans Z73 (Keep.of_wr W77).1
  have SCS_78 := SCS_74.wr W77
  have V_b2_77' : Arv Z h77 b2 k2 .char (20 : Int32) [(.int (112 : Int32)), (.int (112 : Int32)), (.int (112 : Int32)), (.int (112 : Int32)), (.int (112 : Int32)), (.int (112 : Int32)), (.int (112 : Int32)), (.int (112 : Int32)), (.int (112 : Int32)), (.int (112 : Int32)), (.int (112 : Int32)), (.int (112 : Int32)), (.int (112 : Int32)), (.int (112 : Int32)), (.int (112 : Int32)), (.int (112 : Int32)), (.int (112 : Int32)), (.int (112 : Int32)), (.int (112 : Int32)), (.int (0 : Int32))] (.int (0 : Int32)) := V_b2_77
  have pre77 : ∀ t, Steps p.tables e below (T77.setTop (mkF m 112 #[.val (.int p1), .val (.int p2), .val (.int p3), .unset, .unset, .unset, .unset, .unset, .unset, .unset, .unset, .unset, .unset, .unset, .unset, .unset] [(.ref b2)])) t → Steps p.tables e below (s₁.setTop (entryFrame m #[(.int p1), (.int p2), (.int p3)] maxLocals)) t := fun t kt => pre76 t (st77 _ kt)
  have pre80 : ∀ t, Steps p.tables e below (T77.setTop (mkF m 117 #[.val (.int p1), .val (.int p2), .val (.int p3), .unset, .unset, .unset, .unset, .unset, .unset, .unset, .unset, .unset, .unset, .unset, .unset, .unset] [(.int (112 : Int32)), (.int (19 : Int32)), (.ref b2), (.ref b2)])) t → Steps p.tables e below (s₁.setTop (entryFrame m #[(.int p1), (.int p2), (.int p3)] maxLocals)) t := by
    intro t kt
    refine pre77 t ?_
    show Steps p.tables e below (T77.setTop (mkF m 112 #[.val (.int p1), .val (.int p2), .val (.int p3), .unset, .unset, .unset, .unset, .unset, .unset, .unset, .unset, .unset, .unset, .unset, .unset, .unset] [(.ref b2)])) _
    refine XS.dup X77.here hx rfl (hb hby at_112) rfl rfl ?_
    show Steps p.tables e below (T77.setTop (mkF m 113 #[.val (.int p1), .val (.int p2), .val (.int p3), .unset, .unset, .unset, .unset, .unset, .unset, .unset, .unset, .unset, .unset, .unset, .unset, .unset] [(.ref b2), (.ref b2)])) _
    refine XS.bipush X77.here hx rfl (hb hby at_113) ?_
    show Steps p.tables e below (T77.setTop (mkF m 115 #[.val (.int p1), .val (.int p2), .val (.int p3), .unset, .unset, .unset, .unset, .unset, .unset, .unset, .unset, .unset, .unset, .unset, .unset, .unset] [(.int (19 : Int32)), (.ref b2), (.ref b2)])) _
    refine XS.bipush X77.here hx rfl (hb hby at_115) ?_
    exact kt
  obtain ⟨cl81, Ar81, q81, S81, M81, H81, G81⟩ := (id V_b2_77')
  have hin81 : ¬ ((19 : Int32) < 0 ∨ cl81.slots.size ≤ ((19 : Int32)).toNatClampNeg) := inb_of S81 ⟨by decide, by decide⟩
  obtain ⟨T81, h81, X81, e81, W81, st81⟩ := stC X77 hx hZ e77 Ar81 (j := (19 : Int32)) hin81 (g := (mkF m 117 #[.val (.int p1), .val (.int p2), .val (.int p3), .unset, .unset, .unset, .unset, .unset, .unset, .unset, .unset, .unset, .unset, .unset, .unset, .unset] [(.int (112 : Int32)), (.int (19 : Int32)), (.ref b2), (.ref b2)])) rfl rfl (hb hby at_117)
  have V_b2_81 := Arv.set Ar81 q81 S81 M81 H81 G81 (fits_nar_char _) W81 19 rfl (Nat.le_of_ble_eq_true rfl)
  have N81 := Fr.snoc X81 N77 g_b2
  have K81 : Keep h0 h81 [] := K77.wr W81 (Or.inr sz_b2)
  have Z81 : n0 ≤ h81.size := Nat.le_trans Z77 (Keep.of_wr W81).1
  have SCS_82 := SCS_78.wr W81
  have V_b2_81' : Arv Z h81 b2 k2 .char (20 : Int32) [(.int (112 : Int32)), (.int (112 : Int32)), (.int (112 : Int32)), (.int (112 : Int32)), (.int (112 : Int32)), (.int (112 : Int32)), (.int (112 : Int32)), (.int (112 : Int32)), (.int (112 : Int32)), (.int (112 : Int32)), (.int (112 : Int32)), (.int (112 : Int32)), (.int (112 : Int32)), (.int (112 : Int32)), (.int (112 : Int32)), (.int (112 : Int32)), (.int (112 : Int32)), (.int (112 : Int32)), (.int (112 : Int32)), (.int (112 : Int32))] (.int (0 : Int32)) := V_b2_81
  have pre81 : ∀ t, Steps p.tables e below (T81.setTop (mkF m 118 #[.val (.int p1), .val (.int p2), .val (.int p3), .unset, .unset, .unset, .unset, .unset, .unset, .unset, .unset, .unset, .unset, .unset, .unset, .unset] [(.ref b2)])) t → Steps p.tables e below (s₁.setTop (entryFrame m #[(.int p1), (.int p2), (.int p3)] maxLocals)) t := fun t kt => pre80 t (st81 _ kt)
  obtain ⟨vs0, V0, ok0⟩ : ∃ vs, Arv Z h81 b2 k2 .char (20 : Int32) vs (.int (0 : Int32)) ∧ own_ok vs := ⟨_, V_b2_81', ⟨[112, 112, 112, 112, 112, 112, 112, 112, 112, 112, 112, 112, 112, 112, 112, 112, 112, 112, 112, 112], rfl, rfl, by decide⟩⟩
  have pre84 : ∀ t, Steps p.tables e below (T81.setTop (mkF m 123 #[.val (.int p1), .val (.int p2), .val (.int p3), .val (.ref b2), .unset, .unset, .unset, .unset, .unset, .unset, .unset, .unset, .unset, .unset, .unset, .unset] [(.int (115 : Int32)), (.int (0 : Int32)), (.ref b2)])) t → Steps p.tables e below (s₁.setTop (entryFrame m #[(.int p1), (.int p2), (.int p3)] maxLocals)) t := by
    intro t kt
    refine pre81 t ?_
    show Steps p.tables e below (T81.setTop (mkF m 118 #[.val (.int p1), .val (.int p2), .val (.int p3), .unset, .unset, .unset, .unset, .unset, .unset, .unset, .unset, .unset, .unset, .unset, .unset, .unset] [(.ref b2)])) _
    refine XS.astoreN X81.here hx rfl (hb hby at_118) rfl rfl (l' := #[.val (.int p1), .val (.int p2), .val (.int p3), .val (.ref b2), .unset, .unset, .unset, .unset, .unset, .unset, .unset, .unset, .unset, .unset, .unset, .unset]) rfl ?_
    show Steps p.tables e below (T81.setTop (mkF m 119 #[.val (.int p1), .val (.int p2), .val (.int p3), .val (.ref b2), .unset, .unset, .unset, .unset, .unset, .unset, .unset, .unset, .unset, .unset, .unset, .unset] [])) _
    refine XS.aloadN X81.here hx rfl (hb hby at_119) rfl rfl ?_
    show Steps p.tables e below (T81.setTop (mkF m 120 #[.val (.int p1), .val (.int p2), .val (.int p3), .val (.ref b2), .unset, .unset, .unset, .unset, .unset, .unset, .unset, .unset, .unset, .unset, .unset, .unset] [(.ref b2)])) _
    refine XS.iconst X81.here hx rfl (hb hby at_120) ?_
    show Steps p.tables e below (T81.setTop (mkF m 121 #[.val (.int p1), .val (.int p2), .val (.int p3), .val (.ref b2), .unset, .unset, .unset, .unset, .unset, .unset, .unset, .unset, .unset, .unset, .unset, .unset] [(.int (0 : Int32)), (.ref b2)])) _
    refine XS.bipush X81.here hx rfl (hb hby at_121) ?_
    exact kt
  obtain ⟨cl85, Ar85, q85, S85, M85, H85, G85⟩ := (id V0)
  have ok86 : own_ok (vs0.set ((0 : Int32)).toNatClampNeg (.int (nar .char (115 : Int32)))) := own_okset ok0 _ (by decide)
  have hin85 : ¬ ((0 : Int32) < 0 ∨ cl85.slots.size ≤ ((0 : Int32)).toNatClampNeg) := inb_of S85 (own_in (by decide))
  obtain ⟨T85, h85, X85, e85, W85, st85⟩ := stC X81 hx hZ e81 Ar85 (j := (0 : Int32)) hin85 (g := (mkF m 123 #[.val (.int p1), .val (.int p2), .val (.int p3), .val (.ref b2), .unset, .unset, .unset, .unset, .unset, .unset, .unset, .unset, .unset, .unset, .unset, .unset] [(.int (115 : Int32)), (.int (0 : Int32)), (.ref b2)])) rfl rfl (hb hby at_123)
  have V0_85 := Arv.set Ar85 q85 S85 M85 H85 G85 (fits_nar_char _) W85 ((0 : Int32)).toNatClampNeg rfl (own_oklt ok0 (own_in (by decide)))
  have N85 := Fr.snoc X85 N81 g_b2
  have K85 : Keep h0 h85 [] := K81.wr W85 (Or.inr sz_b2)
  have Z85 : n0 ≤ h85.size := Nat.le_trans Z81 (Keep.of_wr W85).1
  have SCS_87 := SCS_82.wr W85
  have pre85 : ∀ t, Steps p.tables e below (T85.setTop (mkF m 124 #[.val (.int p1), .val (.int p2), .val (.int p3), .val (.ref b2), .unset, .unset, .unset, .unset, .unset, .unset, .unset, .unset, .unset, .unset, .unset, .unset] [])) t → Steps p.tables e below (s₁.setTop (entryFrame m #[(.int p1), (.int p2), (.int p3)] maxLocals)) t := fun t kt => pre84 t (st85 _ kt)
  have pre89 : ∀ t, Steps p.tables e below (T85.setTop (mkF m 128 #[.val (.int p1), .val (.int p2), .val (.int p3), .val (.ref b2), .unset, .unset, .unset, .unset, .unset, .unset, .unset, .unset, .unset, .unset, .unset, .unset] [(.int (58 : Int32)), (.int (1 : Int32)), (.ref b2)])) t → Steps p.tables e below (s₁.setTop (entryFrame m #[(.int p1), (.int p2), (.int p3)] maxLocals)) t := by
    intro t kt
    refine pre85 t ?_
    show Steps p.tables e below (T85.setTop (mkF m 124 #[.val (.int p1), .val (.int p2), .val (.int p3), .val (.ref b2), .unset, .unset, .unset, .unset, .unset, .unset, .unset, .unset, .unset, .unset, .unset, .unset] [])) _
    refine XS.aloadN X85.here hx rfl (hb hby at_124) rfl rfl ?_
    show Steps p.tables e below (T85.setTop (mkF m 125 #[.val (.int p1), .val (.int p2), .val (.int p3), .val (.ref b2), .unset, .unset, .unset, .unset, .unset, .unset, .unset, .unset, .unset, .unset, .unset, .unset] [(.ref b2)])) _
    refine XS.iconst X85.here hx rfl (hb hby at_125) ?_
    show Steps p.tables e below (T85.setTop (mkF m 126 #[.val (.int p1), .val (.int p2), .val (.int p3), .val (.ref b2), .unset, .unset, .unset, .unset, .unset, .unset, .unset, .unset, .unset, .unset, .unset, .unset] [(.int (1 : Int32)), (.ref b2)])) _
    refine XS.bipush X85.here hx rfl (hb hby at_126) ?_
    exact kt
  obtain ⟨cl90, Ar90, q90, S90, M90, H90, G90⟩ := (id V0_85)
  have ok91 : own_ok ((vs0.set ((0 : Int32)).toNatClampNeg (.int (nar .char (115 : Int32)))).set ((1 : Int32)).toNatClampNeg (.int (nar .char (58 : Int32)))) := own_okset ok86 _ (by decide)
  have hin90 : ¬ ((1 : Int32) < 0 ∨ cl90.slots.size ≤ ((1 : Int32)).toNatClampNeg) := inb_of S90 (own_in (by decide))
  obtain ⟨T90, h90, X90, e90, W90, st90⟩ := stC X85 hx hZ e85 Ar90 (j := (1 : Int32)) hin90 (g := (mkF m 128 #[.val (.int p1), .val (.int p2), .val (.int p3), .val (.ref b2), .unset, .unset, .unset, .unset, .unset, .unset, .unset, .unset, .unset, .unset, .unset, .unset] [(.int (58 : Int32)), (.int (1 : Int32)), (.ref b2)])) rfl rfl (hb hby at_128)
  have V0_90 := Arv.set Ar90 q90 S90 M90 H90 G90 (fits_nar_char _) W90 ((1 : Int32)).toNatClampNeg rfl (own_oklt ok86 (own_in (by decide)))
  have N90 := Fr.snoc X90 N85 g_b2
  have K90 : Keep h0 h90 [] := K85.wr W90 (Or.inr sz_b2)
  have Z90 : n0 ≤ h90.size := Nat.le_trans Z85 (Keep.of_wr W90).1
  have SCS_92 := SCS_87.wr W90
  have pre90 : ∀ t, Steps p.tables e below (T90.setTop (mkF m 129 #[.val (.int p1), .val (.int p2), .val (.int p3), .val (.ref b2), .unset, .unset, .unset, .unset, .unset, .unset, .unset, .unset, .unset, .unset, .unset, .unset] [])) t → Steps p.tables e below (s₁.setTop (entryFrame m #[(.int p1), (.int p2), (.int p3)] maxLocals)) t := fun t kt => pre89 t (st90 _ kt)
  have pre94 : ∀ t, Steps p.tables e below (T90.setTop (mkF m 132 #[.val (.int p1), .val (.int p2), .val (.int p3), .val (.ref b2), .unset, .unset, .unset, .unset, .unset, .unset, .unset, .unset, .unset, .unset, .unset, .unset] [(.int (p1 &&& (1 : Int32)))])) t → Steps p.tables e below (s₁.setTop (entryFrame m #[(.int p1), (.int p2), (.int p3)] maxLocals)) t := by
    intro t kt
    refine pre90 t ?_
    show Steps p.tables e below (T90.setTop (mkF m 129 #[.val (.int p1), .val (.int p2), .val (.int p3), .val (.ref b2), .unset, .unset, .unset, .unset, .unset, .unset, .unset, .unset, .unset, .unset, .unset, .unset] [])) _
    refine XS.iloadN X90.here hx rfl (hb hby at_129) rfl ?_
    show Steps p.tables e below (T90.setTop (mkF m 130 #[.val (.int p1), .val (.int p2), .val (.int p3), .val (.ref b2), .unset, .unset, .unset, .unset, .unset, .unset, .unset, .unset, .unset, .unset, .unset, .unset] [(.int p1)])) _
    refine XS.iconst X90.here hx rfl (hb hby at_130) ?_
    show Steps p.tables e below (T90.setTop (mkF m 131 #[.val (.int p1), .val (.int p2), .val (.int p3), .val (.ref b2), .unset, .unset, .unset, .unset, .unset, .unset, .unset, .unset, .unset, .unset, .unset, .unset] [(.int (1 : Int32)), (.int p1)])) _
    refine XS.iand X90.here hx rfl (hb hby at_131) rfl ?_
    exact kt
  obtain ⟨v95_0, hv95_0, pre95⟩ : ∃ (v95_0 : Int32), v95_0 = (if (p1 &&& (1 : Int32)) = (0 : Int32) then (0 : Int32) else (1 : Int32)) ∧ ∀ t, Steps p.tables e below (T90.setTop (mkF m 140 #[.val (.int p1), .val (.int p2), .val (.int p3), .val (.ref b2), .unset, .unset, .unset, .unset, .unset, .unset, .unset, .unset, .unset, .unset, .unset, .unset] [(.int v95_0)])) t → Steps p.tables e below (s₁.setTop (entryFrame m #[(.int p1), (.int p2), (.int p3)] maxLocals)) t := by
    refine ⟨_, rfl, ?_⟩
    intro t kt
    refine pre94 t ?_
    show Steps p.tables e below (T90.setTop (mkF m 132 #[.val (.int p1), .val (.int p2), .val (.int p3), .val (.ref b2), .unset, .unset, .unset, .unset, .unset, .unset, .unset, .unset, .unset, .unset, .unset, .unset] [(.int (p1 &&& (1 : Int32)))])) _
    by_cases hc132 : (p1 &&& (1 : Int32)) = (0 : Int32)
    · (try simp only [if_pos hc132] at kt)
      refine XS.ifYes X90.here hx rfl (pc0 := 132) (pc' := 139) rfl (hb hby at_132) rfl ((if0 _ _).trans (teq hc132).1) (by decide) (by decide) ?_
      show Steps p.tables e below (T90.setTop (mkF m 139 #[.val (.int p1), .val (.int p2), .val (.int p3), .val (.ref b2), .unset, .unset, .unset, .unset, .unset, .unset, .unset, .unset, .unset, .unset, .unset, .unset] [])) _
      refine XS.iconst X90.here hx rfl (hb hby at_139) ?_
      exact kt
    · (try simp only [if_neg hc132] at kt)
      refine XS.ifNo X90.here hx rfl (hb hby at_132) rfl ((if0 _ _).trans (feq hc132).1) ?_
      show Steps p.tables e below (T90.setTop (mkF m 135 #[.val (.int p1), .val (.int p2), .val (.int p3), .val (.ref b2), .unset, .unset, .unset, .unset, .unset, .unset, .unset, .unset, .unset, .unset, .unset, .unset] [])) _
      refine XS.iconst X90.here hx rfl (hb hby at_135) ?_
      show Steps p.tables e below (T90.setTop (mkF m 136 #[.val (.int p1), .val (.int p2), .val (.int p3), .val (.ref b2), .unset, .unset, .unset, .unset, .unset, .unset, .unset, .unset, .unset, .unset, .unset, .unset] [(.int (1 : Int32))])) _
      refine XS.goto X90.here hx rfl (pc0 := 136) (pc' := 140) rfl (hb hby at_136) (by decide) (by decide) ?_
      exact kt
  have pre96 : ∀ t, Steps p.tables e below (T90.setTop (mkF m 147 #[.val (.int p1), .val (.int p2), .val (.int p3), .val (.ref b2), .val (.int v95_0), .val (.int (1 : Int32)), .unset, .unset, .unset, .unset, .unset, .unset, .unset, .unset, .unset, .unset] [(.int v95_0)])) t → Steps p.tables e below (s₁.setTop (entryFrame m #[(.int p1), (.int p2), (.int p3)] maxLocals)) t := by
    intro t kt
    refine pre95 t ?_
    show Steps p.tables e below (T90.setTop (mkF m 140 #[.val (.int p1), .val (.int p2), .val (.int p3), .val (.ref b2), .unset, .unset, .unset, .unset, .unset, .unset, .unset, .unset, .unset, .unset, .unset, .unset] [(.int v95_0)])) _
    refine XS.istore X90.here hx rfl (hb hby at_140) rfl (l' := #[.val (.int p1), .val (.int p2), .val (.int p3), .val (.ref b2), .val (.int v95_0), .unset, .unset, .unset, .unset, .unset, .unset, .unset, .unset, .unset, .unset, .unset]) rfl ?_
    show Steps p.tables e below (T90.setTop (mkF m 142 #[.val (.int p1), .val (.int p2), .val (.int p3), .val (.ref b2), .val (.int v95_0), .unset, .unset, .unset, .unset, .unset, .unset, .unset, .unset, .unset, .unset, .unset] [])) _
    refine XS.iconst X90.here hx rfl (hb hby at_142) ?_
    show Steps p.tables e below (T90.setTop (mkF m 143 #[.val (.int p1), .val (.int p2), .val (.int p3), .val (.ref b2), .val (.int v95_0), .unset, .unset, .unset, .unset, .unset, .unset, .unset, .unset, .unset, .unset, .unset] [(.int (1 : Int32))])) _
    refine XS.istore X90.here hx rfl (hb hby at_143) rfl (l' := #[.val (.int p1), .val (.int p2), .val (.int p3), .val (.ref b2), .val (.int v95_0), .val (.int (1 : Int32)), .unset, .unset, .unset, .unset, .unset, .unset, .unset, .unset, .unset, .unset]) rfl ?_
    show Steps p.tables e below (T90.setTop (mkF m 145 #[.val (.int p1), .val (.int p2), .val (.int p3), .val (.ref b2), .val (.int v95_0), .val (.int (1 : Int32)), .unset, .unset, .unset, .unset, .unset, .unset, .unset, .unset, .unset, .unset] [])) _
    refine XS.iload X90.here hx rfl (hb hby at_145) rfl ?_
    exact kt
  by_cases hc147 : v95_0 = (0 : Int32)
  · have pre97 : ∀ t, Steps p.tables e below (T90.setTop (mkF m 370 #[.val (.int p1), .val (.int p2), .val (.int p3), .val (.ref b2), .val (.int v95_0), .val (.int (1 : Int32)), .unset, .unset, .unset, .unset, .unset, .unset, .unset, .unset, .unset, .unset] [])) t → Steps p.tables e below (s₁.setTop (entryFrame m #[(.int p1), (.int p2), (.int p3)] maxLocals)) t := by
      intro t kt
      refine pre96 t ?_
      show Steps p.tables e below (T90.setTop (mkF m 147 #[.val (.int p1), .val (.int p2), .val (.int p3), .val (.ref b2), .val (.int v95_0), .val (.int (1 : Int32)), .unset, .unset, .unset, .unset, .unset, .unset, .unset, .unset, .unset, .unset] [(.int v95_0)])) _
      refine XS.ifYes X90.here hx rfl (pc0 := 147) (pc' := 370) rfl (hb hby at_147) rfl ((if0 _ _).trans (teq hc147).1) (by decide) (by decide) ?_
      exact kt
    have pre98 : ∀ t, Steps p.tables e below (T90.setTop (mkF m 388 #[.val (.int p1), .val (.int p2), .val (.int p3), .val (.ref b2), .val (.int v95_0), .val (.int (1 : Int32)), .val (.int (2 : Int32)), .val (.int (2 : Int32)), .val (.int (2 : Int32)), .val (.int (-1 : Int32)), .unset, .val (.int (2 : Int32)), .unset, .unset, .unset, .unset] [(.int (p1 &&& (2 : Int32)))])) t → Steps p.tables e below (s₁.setTop (entryFrame m #[(.int p1), (.int p2), (.int p3)] maxLocals)) t := by
      intro t kt
      refine pre97 t ?_
      show Steps p.tables e below (T90.setTop (mkF m 370 #[.val (.int p1), .val (.int p2), .val (.int p3), .val (.ref b2), .val (.int v95_0), .val (.int (1 : Int32)), .unset, .unset, .unset, .unset, .unset, .unset, .unset, .unset, .unset, .unset] [])) _
      refine XS.iconst X90.here hx rfl (hb hby at_370) ?_
      show Steps p.tables e below (T90.setTop (mkF m 371 #[.val (.int p1), .val (.int p2), .val (.int p3), .val (.ref b2), .val (.int v95_0), .val (.int (1 : Int32)), .unset, .unset, .unset, .unset, .unset, .unset, .unset, .unset, .unset, .unset] [(.int (2 : Int32))])) _
      refine XS.istore X90.here hx rfl (hb hby at_371) rfl (l' := #[.val (.int p1), .val (.int p2), .val (.int p3), .val (.ref b2), .val (.int v95_0), .val (.int (1 : Int32)), .val (.int (2 : Int32)), .unset, .unset, .unset, .unset, .unset, .unset, .unset, .unset, .unset]) rfl ?_
      show Steps p.tables e below (T90.setTop (mkF m 373 #[.val (.int p1), .val (.int p2), .val (.int p3), .val (.ref b2), .val (.int v95_0), .val (.int (1 : Int32)), .val (.int (2 : Int32)), .unset, .unset, .unset, .unset, .unset, .unset, .unset, .unset, .unset] [])) _
      refine XS.iconst X90.here hx rfl (hb hby at_373) ?_
      show Steps p.tables e below (T90.setTop (mkF m 374 #[.val (.int p1), .val (.int p2), .val (.int p3), .val (.ref b2), .val (.int v95_0), .val (.int (1 : Int32)), .val (.int (2 : Int32)), .unset, .unset, .unset, .unset, .unset, .unset, .unset, .unset, .unset] [(.int (2 : Int32))])) _
      refine XS.istore X90.here hx rfl (hb hby at_374) rfl (l' := #[.val (.int p1), .val (.int p2), .val (.int p3), .val (.ref b2), .val (.int v95_0), .val (.int (1 : Int32)), .val (.int (2 : Int32)), .val (.int (2 : Int32)), .unset, .unset, .unset, .unset, .unset, .unset, .unset, .unset]) rfl ?_
      show Steps p.tables e below (T90.setTop (mkF m 376 #[.val (.int p1), .val (.int p2), .val (.int p3), .val (.ref b2), .val (.int v95_0), .val (.int (1 : Int32)), .val (.int (2 : Int32)), .val (.int (2 : Int32)), .unset, .unset, .unset, .unset, .unset, .unset, .unset, .unset] [])) _
      refine XS.iconst X90.here hx rfl (hb hby at_376) ?_
      show Steps p.tables e below (T90.setTop (mkF m 377 #[.val (.int p1), .val (.int p2), .val (.int p3), .val (.ref b2), .val (.int v95_0), .val (.int (1 : Int32)), .val (.int (2 : Int32)), .val (.int (2 : Int32)), .unset, .unset, .unset, .unset, .unset, .unset, .unset, .unset] [(.int (2 : Int32))])) _
      refine XS.istore X90.here hx rfl (hb hby at_377) rfl (l' := #[.val (.int p1), .val (.int p2), .val (.int p3), .val (.ref b2), .val (.int v95_0), .val (.int (1 : Int32)), .val (.int (2 : Int32)), .val (.int (2 : Int32)), .val (.int (2 : Int32)), .unset, .unset, .unset, .unset, .unset, .unset, .unset]) rfl ?_
      show Steps p.tables e below (T90.setTop (mkF m 379 #[.val (.int p1), .val (.int p2), .val (.int p3), .val (.ref b2), .val (.int v95_0), .val (.int (1 : Int32)), .val (.int (2 : Int32)), .val (.int (2 : Int32)), .val (.int (2 : Int32)), .unset, .unset, .unset, .unset, .unset, .unset, .unset] [])) _
      refine XS.iconst X90.here hx rfl (hb hby at_379) ?_
      show Steps p.tables e below (T90.setTop (mkF m 380 #[.val (.int p1), .val (.int p2), .val (.int p3), .val (.ref b2), .val (.int v95_0), .val (.int (1 : Int32)), .val (.int (2 : Int32)), .val (.int (2 : Int32)), .val (.int (2 : Int32)), .unset, .unset, .unset, .unset, .unset, .unset, .unset] [(.int (-1 : Int32))])) _
      refine XS.istore X90.here hx rfl (hb hby at_380) rfl (l' := #[.val (.int p1), .val (.int p2), .val (.int p3), .val (.ref b2), .val (.int v95_0), .val (.int (1 : Int32)), .val (.int (2 : Int32)), .val (.int (2 : Int32)), .val (.int (2 : Int32)), .val (.int (-1 : Int32)), .unset, .unset, .unset, .unset, .unset, .unset]) rfl ?_
      show Steps p.tables e below (T90.setTop (mkF m 382 #[.val (.int p1), .val (.int p2), .val (.int p3), .val (.ref b2), .val (.int v95_0), .val (.int (1 : Int32)), .val (.int (2 : Int32)), .val (.int (2 : Int32)), .val (.int (2 : Int32)), .val (.int (-1 : Int32)), .unset, .unset, .unset, .unset, .unset, .unset] [])) _
      refine XS.iconst X90.here hx rfl (hb hby at_382) ?_
      show Steps p.tables e below (T90.setTop (mkF m 383 #[.val (.int p1), .val (.int p2), .val (.int p3), .val (.ref b2), .val (.int v95_0), .val (.int (1 : Int32)), .val (.int (2 : Int32)), .val (.int (2 : Int32)), .val (.int (2 : Int32)), .val (.int (-1 : Int32)), .unset, .unset, .unset, .unset, .unset, .unset] [(.int (2 : Int32))])) _
      refine XS.istore X90.here hx rfl (hb hby at_383) rfl (l' := #[.val (.int p1), .val (.int p2), .val (.int p3), .val (.ref b2), .val (.int v95_0), .val (.int (1 : Int32)), .val (.int (2 : Int32)), .val (.int (2 : Int32)), .val (.int (2 : Int32)), .val (.int (-1 : Int32)), .unset, .val (.int (2 : Int32)), .unset, .unset, .unset, .unset]) rfl ?_
      show Steps p.tables e below (T90.setTop (mkF m 385 #[.val (.int p1), .val (.int p2), .val (.int p3), .val (.ref b2), .val (.int v95_0), .val (.int (1 : Int32)), .val (.int (2 : Int32)), .val (.int (2 : Int32)), .val (.int (2 : Int32)), .val (.int (-1 : Int32)), .unset, .val (.int (2 : Int32)), .unset, .unset, .unset, .unset] [])) _
      refine XS.iloadN X90.here hx rfl (hb hby at_385) rfl ?_
      show Steps p.tables e below (T90.setTop (mkF m 386 #[.val (.int p1), .val (.int p2), .val (.int p3), .val (.ref b2), .val (.int v95_0), .val (.int (1 : Int32)), .val (.int (2 : Int32)), .val (.int (2 : Int32)), .val (.int (2 : Int32)), .val (.int (-1 : Int32)), .unset, .val (.int (2 : Int32)), .unset, .unset, .unset, .unset] [(.int p1)])) _
      refine XS.iconst X90.here hx rfl (hb hby at_386) ?_
      show Steps p.tables e below (T90.setTop (mkF m 387 #[.val (.int p1), .val (.int p2), .val (.int p3), .val (.ref b2), .val (.int v95_0), .val (.int (1 : Int32)), .val (.int (2 : Int32)), .val (.int (2 : Int32)), .val (.int (2 : Int32)), .val (.int (-1 : Int32)), .unset, .val (.int (2 : Int32)), .unset, .unset, .unset, .unset] [(.int (2 : Int32)), (.int p1)])) _
      refine XS.iand X90.here hx rfl (hb hby at_387) rfl ?_
      exact kt
    obtain ⟨T99, h99, L99, vs99_0, X99, e99, N99, K99, Z99, SCS_99, V0_99, okvs99_0, pre99⟩ : ∃ (T' : State) (h' : Heap) (L' : List Loc) (vs99_0 : List Value), Stand p l e room_1 s m #[(.int p1), (.int p2), (.int p3)] below meth c T' L' 1 20 ∧ T'.heap = h' ∧ Fr n0 L' ∧ Keep h0 h' [] ∧ n0 ≤ h'.size ∧ Sta Z h' "java/lang/String" "COMPACT_STRINGS" "Z" (.int cz) ∧ Arv Z h' b2 k2 .char (20 : Int32) vs99_0 (.int (0 : Int32)) ∧ own_ok vs99_0 ∧ ∀ t, Steps p.tables e below (T'.setTop (mkF m 438 #[.val (.int p1), .val (.int p2), .val (.int p3), .val (.ref b2), .val (.int v95_0), .val (.int (1 : Int32)), .val (.int (2 : Int32)), .val (.int (2 : Int32)), .val (.int (2 : Int32)), .val (.int (-1 : Int32)), .val (.int (if (p1 &&& (2 : Int32)) = (0 : Int32) then (2 : Int32) else (4 : Int32))), .val (.int (2 : Int32)), .unset, .unset, .unset, .unset] [])) t → Steps p.tables e below (s₁.setTop (entryFrame m #[(.int p1), (.int p2), (.int p3)] maxLocals)) t := by
      by_cases hc388 : (p1 &&& (2 : Int32)) = (0 : Int32)
      · skip
        have pre100 : ∀ t, Steps p.tables e below (T90.setTop (mkF m 417 #[.val (.int p1), .val (.int p2), .val (.int p3), .val (.ref b2), .val (.int v95_0), .val (.int (1 : Int32)), .val (.int (2 : Int32)), .val (.int (2 : Int32)), .val (.int (2 : Int32)), .val (.int (-1 : Int32)), .unset, .val (.int (2 : Int32)), .unset, .unset, .unset, .unset] [])) t → Steps p.tables e below (s₁.setTop (entryFrame m #[(.int p1), (.int p2), (.int p3)] maxLocals)) t := by
          intro t kt
          refine pre98 t ?_
          show Steps p.tables e below (T90.setTop (mkF m 388 #[.val (.int p1), .val (.int p2), .val (.int p3), .val (.ref b2), .val (.int v95_0), .val (.int (1 : Int32)), .val (.int (2 : Int32)), .val (.int (2 : Int32)), .val (.int (2 : Int32)), .val (.int (-1 : Int32)), .unset, .val (.int (2 : Int32)), .unset, .unset, .unset, .unset] [(.int (p1 &&& (2 : Int32)))])) _
          refine XS.ifYes X90.here hx rfl (pc0 := 388) (pc' := 417) rfl (hb hby at_388) rfl ((if0 _ _).trans (teq hc388).1) (by decide) (by decide) ?_
          exact kt
        have pre101 : ∀ t, Steps p.tables e below (T90.setTop (mkF m 421 #[.val (.int p1), .val (.int p2), .val (.int p3), .val (.ref b2), .val (.int v95_0), .val (.int (1 : Int32)), .val (.int (2 : Int32)), .val (.int (2 : Int32)), .val (.int (2 : Int32)), .val (.int (-1 : Int32)), .unset, .val (.int (2 : Int32)), .unset, .unset, .unset, .unset] [(.int (p1 &&& (8 : Int32)))])) t → Steps p.tables e below (s₁.setTop (entryFrame m #[(.int p1), (.int p2), (.int p3)] maxLocals)) t := by
          intro t kt
          refine pre100 t ?_
          show Steps p.tables e below (T90.setTop (mkF m 417 #[.val (.int p1), .val (.int p2), .val (.int p3), .val (.ref b2), .val (.int v95_0), .val (.int (1 : Int32)), .val (.int (2 : Int32)), .val (.int (2 : Int32)), .val (.int (2 : Int32)), .val (.int (-1 : Int32)), .unset, .val (.int (2 : Int32)), .unset, .unset, .unset, .unset] [])) _
          refine XS.iloadN X90.here hx rfl (hb hby at_417) rfl ?_
          show Steps p.tables e below (T90.setTop (mkF m 418 #[.val (.int p1), .val (.int p2), .val (.int p3), .val (.ref b2), .val (.int v95_0), .val (.int (1 : Int32)), .val (.int (2 : Int32)), .val (.int (2 : Int32)), .val (.int (2 : Int32)), .val (.int (-1 : Int32)), .unset, .val (.int (2 : Int32)), .unset, .unset, .unset, .unset] [(.int p1)])) _
          refine XS.bipush X90.here hx rfl (hb hby at_418) ?_
          show Steps p.tables e below (T90.setTop (mkF m 420 #[.val (.int p1), .val (.int p2), .val (.int p3), .val (.ref b2), .val (.int v95_0), .val (.int (1 : Int32)), .val (.int (2 : Int32)), .val (.int (2 : Int32)), .val (.int (2 : Int32)), .val (.int (-1 : Int32)), .unset, .val (.int (2 : Int32)), .unset, .unset, .unset, .unset] [(.int (8 : Int32)), (.int p1)])) _
          refine XS.iand X90.here hx rfl (hb hby at_420) rfl ?_
          exact kt
        obtain ⟨T102, h102, L102, vs102_0, X102, e102, N102, K102, Z102, SCS_102, V0_102, okvs102_0, pre102⟩ : ∃ (T' : State) (h' : Heap) (L' : List Loc) (vs102_0 : List Value), Stand p l e room_1 s m #[(.int p1), (.int p2), (.int p3)] below meth c T' L' 1 20 ∧ T'.heap = h' ∧ Fr n0 L' ∧ Keep h0 h' [] ∧ n0 ≤ h'.size ∧ Sta Z h' "java/lang/String" "COMPACT_STRINGS" "Z" (.int cz) ∧ Arv Z h' b2 k2 .char (20 : Int32) vs102_0 (.int (0 : Int32)) ∧ own_ok vs102_0 ∧ ∀ t, Steps p.tables e below (T'.setTop (mkF m 438 #[.val (.int p1), .val (.int p2), .val (.int p3), .val (.ref b2), .val (.int v95_0), .val (.int (1 : Int32)), .val (.int (2 : Int32)), .val (.int (2 : Int32)), .val (.int (2 : Int32)), .val (.int (-1 : Int32)), .val (.int (2 : Int32)), .val (.int (2 : Int32)), .unset, .unset, .unset, .unset] [])) t → Steps p.tables e below (s₁.setTop (entryFrame m #[(.int p1), (.int p2), (.int p3)] maxLocals)) t := by
          by_cases hc421 : (p1 &&& (8 : Int32)) = (0 : Int32)
          · skip
            have pre103 : ∀ t, Steps p.tables e below (T90.setTop (mkF m 435 #[.val (.int p1), .val (.int p2), .val (.int p3), .val (.ref b2), .val (.int v95_0), .val (.int (1 : Int32)), .val (.int (2 : Int32)), .val (.int (2 : Int32)), .val (.int (2 : Int32)), .val (.int (-1 : Int32)), .unset, .val (.int (2 : Int32)), .unset, .unset, .unset, .unset] [])) t → Steps p.tables e below (s₁.setTop (entryFrame m #[(.int p1), (.int p2), (.int p3)] maxLocals)) t := by
              intro t kt
              refine pre101 t ?_
              show Steps p.tables e below (T90.setTop (mkF m 421 #[.val (.int p1), .val (.int p2), .val (.int p3), .val (.ref b2), .val (.int v95_0), .val (.int (1 : Int32)), .val (.int (2 : Int32)), .val (.int (2 : Int32)), .val (.int (2 : Int32)), .val (.int (-1 : Int32)), .unset, .val (.int (2 : Int32)), .unset, .unset, .unset, .unset] [(.int (p1 &&& (8 : Int32)))])) _
              refine XS.ifYes X90.here hx rfl (pc0 := 421) (pc' := 435) rfl (hb hby at_421) rfl ((if0 _ _).trans (teq hc421).1) (by decide) (by decide) ?_
              exact kt
            have pre104 : ∀ t, Steps p.tables e below (T90.setTop (mkF m 438 #[.val (.int p1), .val (.int p2), .val (.int p3), .val (.ref b2), .val (.int v95_0), .val (.int (1 : Int32)), .val (.int (2 : Int32)), .val (.int (2 : Int32)), .val (.int (2 : Int32)), .val (.int (-1 : Int32)), .val (.int (2 : Int32)), .val (.int (2 : Int32)), .unset, .unset, .unset, .unset] [])) t → Steps p.tables e below (s₁.setTop (entryFrame m #[(.int p1), (.int p2), (.int p3)] maxLocals)) t := by
              intro t kt
              refine pre103 t ?_
              show Steps p.tables e below (T90.setTop (mkF m 435 #[.val (.int p1), .val (.int p2), .val (.int p3), .val (.ref b2), .val (.int v95_0), .val (.int (1 : Int32)), .val (.int (2 : Int32)), .val (.int (2 : Int32)), .val (.int (2 : Int32)), .val (.int (-1 : Int32)), .unset, .val (.int (2 : Int32)), .unset, .unset, .unset, .unset] [])) _
              refine XS.iconst X90.here hx rfl (hb hby at_435) ?_
              show Steps p.tables e below (T90.setTop (mkF m 436 #[.val (.int p1), .val (.int p2), .val (.int p3), .val (.ref b2), .val (.int v95_0), .val (.int (1 : Int32)), .val (.int (2 : Int32)), .val (.int (2 : Int32)), .val (.int (2 : Int32)), .val (.int (-1 : Int32)), .unset, .val (.int (2 : Int32)), .unset, .unset, .unset, .unset] [(.int (2 : Int32))])) _
              refine XS.istore X90.here hx rfl (hb hby at_436) rfl (l' := #[.val (.int p1), .val (.int p2), .val (.int p3), .val (.ref b2), .val (.int v95_0), .val (.int (1 : Int32)), .val (.int (2 : Int32)), .val (.int (2 : Int32)), .val (.int (2 : Int32)), .val (.int (-1 : Int32)), .val (.int (2 : Int32)), .val (.int (2 : Int32)), .unset, .unset, .unset, .unset]) rfl ?_
              exact kt
            exact ⟨_, _, _, _, X90, e90, N90, K90, Z90, SCS_92, V0_90, ok91, (by (try simp only [if_pos hc421]); exact pre104)⟩
          · skip
            have pre105 : ∀ t, Steps p.tables e below (T90.setTop (mkF m 424 #[.val (.int p1), .val (.int p2), .val (.int p3), .val (.ref b2), .val (.int v95_0), .val (.int (1 : Int32)), .val (.int (2 : Int32)), .val (.int (2 : Int32)), .val (.int (2 : Int32)), .val (.int (-1 : Int32)), .unset, .val (.int (2 : Int32)), .unset, .unset, .unset, .unset] [])) t → Steps p.tables e below (s₁.setTop (entryFrame m #[(.int p1), (.int p2), (.int p3)] maxLocals)) t := by
              intro t kt
              refine pre101 t ?_
              show Steps p.tables e below (T90.setTop (mkF m 421 #[.val (.int p1), .val (.int p2), .val (.int p3), .val (.ref b2), .val (.int v95_0), .val (.int (1 : Int32)), .val (.int (2 : Int32)), .val (.int (2 : Int32)), .val (.int (2 : Int32)), .val (.int (-1 : Int32)), .unset, .val (.int (2 : Int32)), .unset, .unset, .unset, .unset] [(.int (p1 &&& (8 : Int32)))])) _
              refine XS.ifNo X90.here hx rfl (hb hby at_421) rfl ((if0 _ _).trans (feq hc421).1) ?_
              exact kt
            have pre106 : ∀ t, Steps p.tables e below (T90.setTop (mkF m 428 #[.val (.int p1), .val (.int p2), .val (.int p3), .val (.ref b2), .val (.int v95_0), .val (.int (1 : Int32)), .val (.int (2 : Int32)), .val (.int (2 : Int32)), .val (.int (2 : Int32)), .val (.int (-1 : Int32)), .unset, .val (.int (2 : Int32)), .unset, .unset, .unset, .unset] [(.int (47 : Int32)), (.int (2 : Int32)), (.ref b2)])) t → Steps p.tables e below (s₁.setTop (entryFrame m #[(.int p1), (.int p2), (.int p3)] maxLocals)) t := by
              intro t kt
              refine pre105 t ?_
              show Steps p.tables e below (T90.setTop (mkF m 424 #[.val (.int p1), .val (.int p2), .val (.int p3), .val (.ref b2), .val (.int v95_0), .val (.int (1 : Int32)), .val (.int (2 : Int32)), .val (.int (2 : Int32)), .val (.int (2 : Int32)), .val (.int (-1 : Int32)), .unset, .val (.int (2 : Int32)), .unset, .unset, .unset, .unset] [])) _
              refine XS.aloadN X90.here hx rfl (hb hby at_424) rfl rfl ?_
              show Steps p.tables e below (T90.setTop (mkF m 425 #[.val (.int p1), .val (.int p2), .val (.int p3), .val (.ref b2), .val (.int v95_0), .val (.int (1 : Int32)), .val (.int (2 : Int32)), .val (.int (2 : Int32)), .val (.int (2 : Int32)), .val (.int (-1 : Int32)), .unset, .val (.int (2 : Int32)), .unset, .unset, .unset, .unset] [(.ref b2)])) _
              refine XS.iconst X90.here hx rfl (hb hby at_425) ?_
              show Steps p.tables e below (T90.setTop (mkF m 426 #[.val (.int p1), .val (.int p2), .val (.int p3), .val (.ref b2), .val (.int v95_0), .val (.int (1 : Int32)), .val (.int (2 : Int32)), .val (.int (2 : Int32)), .val (.int (2 : Int32)), .val (.int (-1 : Int32)), .unset, .val (.int (2 : Int32)), .unset, .unset, .unset, .unset] [(.int (2 : Int32)), (.ref b2)])) _
              refine XS.bipush X90.here hx rfl (hb hby at_426) ?_
              exact kt
            obtain ⟨cl107, Ar107, q107, S107, M107, H107, G107⟩ := (id V0_90)
            have ok108 : own_ok (((vs0.set ((0 : Int32)).toNatClampNeg (.int (nar .char (115 : Int32)))).set ((1 : Int32)).toNatClampNeg (.int (nar .char (58 : Int32)))).set ((2 : Int32)).toNatClampNeg (.int (nar .char (47 : Int32)))) := own_okset ok91 _ (by decide)
            have hin107 : ¬ ((2 : Int32) < 0 ∨ cl107.slots.size ≤ ((2 : Int32)).toNatClampNeg) := inb_of S107 (own_in (by decide))
            obtain ⟨T107, h107, X107, e107, W107, st107⟩ := stC X90 hx hZ e90 Ar107 (j := (2 : Int32)) hin107 (g := (mkF m 428 #[.val (.int p1), .val (.int p2), .val (.int p3), .val (.ref b2), .val (.int v95_0), .val (.int (1 : Int32)), .val (.int (2 : Int32)), .val (.int (2 : Int32)), .val (.int (2 : Int32)), .val (.int (-1 : Int32)), .unset, .val (.int (2 : Int32)), .unset, .unset, .unset, .unset] [(.int (47 : Int32)), (.int (2 : Int32)), (.ref b2)])) rfl rfl (hb hby at_428)
            have V0_107 := Arv.set Ar107 q107 S107 M107 H107 G107 (fits_nar_char _) W107 ((2 : Int32)).toNatClampNeg rfl (own_oklt ok91 (own_in (by decide)))
            have N107 := Fr.snoc X107 N90 g_b2
            have K107 : Keep h0 h107 [] := K90.wr W107 (Or.inr sz_b2)
            have Z107 : n0 ≤ h107.size := Nat.le_trans Z90 (Keep.of_wr W107).1
            have SCS_109 := SCS_92.wr W107
            have pre107 : ∀ t, Steps p.tables e below (T107.setTop (mkF m 429 #[.val (.int p1), .val (.int p2), .val (.int p3), .val (.ref b2), .val (.int v95_0), .val (.int (1 : Int32)), .val (.int (2 : Int32)), .val (.int (2 : Int32)), .val (.int (2 : Int32)), .val (.int (-1 : Int32)), .unset, .val (.int (2 : Int32)), .unset, .unset, .unset, .unset] [])) t → Steps p.tables e below (s₁.setTop (entryFrame m #[(.int p1), (.int p2), (.int p3)] maxLocals)) t := fun t kt => pre106 t (st107 _ kt)
            have pre111 : ∀ t, Steps p.tables e below (T107.setTop (mkF m 438 #[.val (.int p1), .val (.int p2), .val (.int p3), .val (.ref b2), .val (.int v95_0), .val (.int (1 : Int32)), .val (.int (2 : Int32)), .val (.int (2 : Int32)), .val (.int (2 : Int32)), .val (.int (-1 : Int32)), .val (.int (2 : Int32)), .val (.int (2 : Int32)), .unset, .unset, .unset, .unset] [])) t → Steps p.tables e below (s₁.setTop (entryFrame m #[(.int p1), (.int p2), (.int p3)] maxLocals)) t := by
              intro t kt
              refine pre107 t ?_
              show Steps p.tables e below (T107.setTop (mkF m 429 #[.val (.int p1), .val (.int p2), .val (.int p3), .val (.ref b2), .val (.int v95_0), .val (.int (1 : Int32)), .val (.int (2 : Int32)), .val (.int (2 : Int32)), .val (.int (2 : Int32)), .val (.int (-1 : Int32)), .unset, .val (.int (2 : Int32)), .unset, .unset, .unset, .unset] [])) _
              refine XS.iconst X107.here hx rfl (hb hby at_429) ?_
              show Steps p.tables e below (T107.setTop (mkF m 430 #[.val (.int p1), .val (.int p2), .val (.int p3), .val (.ref b2), .val (.int v95_0), .val (.int (1 : Int32)), .val (.int (2 : Int32)), .val (.int (2 : Int32)), .val (.int (2 : Int32)), .val (.int (-1 : Int32)), .unset, .val (.int (2 : Int32)), .unset, .unset, .unset, .unset] [(.int (2 : Int32))])) _
              refine XS.istore X107.here hx rfl (hb hby at_430) rfl (l' := #[.val (.int p1), .val (.int p2), .val (.int p3), .val (.ref b2), .val (.int v95_0), .val (.int (1 : Int32)), .val (.int (2 : Int32)), .val (.int (2 : Int32)), .val (.int (2 : Int32)), .val (.int (-1 : Int32)), .val (.int (2 : Int32)), .val (.int (2 : Int32)), .unset, .unset, .unset, .unset]) rfl ?_
              show Steps p.tables e below (T107.setTop (mkF m 432 #[.val (.int p1), .val (.int p2), .val (.int p3), .val (.ref b2), .val (.int v95_0), .val (.int (1 : Int32)), .val (.int (2 : Int32)), .val (.int (2 : Int32)), .val (.int (2 : Int32)), .val (.int (-1 : Int32)), .val (.int (2 : Int32)), .val (.int (2 : Int32)), .unset, .unset, .unset, .unset] [])) _
              refine XS.goto X107.here hx rfl (pc0 := 432) (pc' := 438) rfl (hb hby at_432) (by decide) (by decide) ?_
              exact kt
            exact ⟨_, _, _, _, X107, e107, N107, K107, Z107, SCS_109, V0_107, ok108, (by (try simp only [if_neg hc421]); exact pre111)⟩
        exact ⟨_, _, _, _, X102, e102, N102, K102, Z102, SCS_102, V0_102, okvs102_0, (by (try simp only [if_pos hc388]); exact pre102)⟩
      · skip
        have pre112 : ∀ t, Steps p.tables e below (T90.setTop (mkF m 391 #[.val (.int p1), .val (.int p2), .val (.int p3), .val (.ref b2), .val (.int v95_0), .val (.int (1 : Int32)), .val (.int (2 : Int32)), .val (.int (2 : Int32)), .val (.int (2 : Int32)), .val (.int (-1 : Int32)), .unset, .val (.int (2 : Int32)), .unset, .unset, .unset, .unset] [])) t → Steps p.tables e below (s₁.setTop (entryFrame m #[(.int p1), (.int p2), (.int p3)] maxLocals)) t := by
          intro t kt
          refine pre98 t ?_
          show Steps p.tables e below (T90.setTop (mkF m 388 #[.val (.int p1), .val (.int p2), .val (.int p3), .val (.ref b2), .val (.int v95_0), .val (.int (1 : Int32)), .val (.int (2 : Int32)), .val (.int (2 : Int32)), .val (.int (2 : Int32)), .val (.int (-1 : Int32)), .unset, .val (.int (2 : Int32)), .unset, .unset, .unset, .unset] [(.int (p1 &&& (2 : Int32)))])) _
          refine XS.ifNo X90.here hx rfl (hb hby at_388) rfl ((if0 _ _).trans (feq hc388).1) ?_
          exact kt
        have pre113 : ∀ t, Steps p.tables e below (T90.setTop (mkF m 395 #[.val (.int p1), .val (.int p2), .val (.int p3), .val (.ref b2), .val (.int v95_0), .val (.int (1 : Int32)), .val (.int (2 : Int32)), .val (.int (2 : Int32)), .val (.int (2 : Int32)), .val (.int (-1 : Int32)), .unset, .val (.int (2 : Int32)), .unset, .unset, .unset, .unset] [(.int (47 : Int32)), (.int (2 : Int32)), (.ref b2)])) t → Steps p.tables e below (s₁.setTop (entryFrame m #[(.int p1), (.int p2), (.int p3)] maxLocals)) t := by
          intro t kt
          refine pre112 t ?_
          show Steps p.tables e below (T90.setTop (mkF m 391 #[.val (.int p1), .val (.int p2), .val (.int p3), .val (.ref b2), .val (.int v95_0), .val (.int (1 : Int32)), .val (.int (2 : Int32)), .val (.int (2 : Int32)), .val (.int (2 : Int32)), .val (.int (-1 : Int32)), .unset, .val (.int (2 : Int32)), .unset, .unset, .unset, .unset] [])) _
          refine XS.aloadN X90.here hx rfl (hb hby at_391) rfl rfl ?_
          show Steps p.tables e below (T90.setTop (mkF m 392 #[.val (.int p1), .val (.int p2), .val (.int p3), .val (.ref b2), .val (.int v95_0), .val (.int (1 : Int32)), .val (.int (2 : Int32)), .val (.int (2 : Int32)), .val (.int (2 : Int32)), .val (.int (-1 : Int32)), .unset, .val (.int (2 : Int32)), .unset, .unset, .unset, .unset] [(.ref b2)])) _
          refine XS.iconst X90.here hx rfl (hb hby at_392) ?_
          show Steps p.tables e below (T90.setTop (mkF m 393 #[.val (.int p1), .val (.int p2), .val (.int p3), .val (.ref b2), .val (.int v95_0), .val (.int (1 : Int32)), .val (.int (2 : Int32)), .val (.int (2 : Int32)), .val (.int (2 : Int32)), .val (.int (-1 : Int32)), .unset, .val (.int (2 : Int32)), .unset, .unset, .unset, .unset] [(.int (2 : Int32)), (.ref b2)])) _
          refine XS.bipush X90.here hx rfl (hb hby at_393) ?_
          exact kt
        obtain ⟨cl114, Ar114, q114, S114, M114, H114, G114⟩ := (id V0_90)
        have ok115 : own_ok (((vs0.set ((0 : Int32)).toNatClampNeg (.int (nar .char (115 : Int32)))).set ((1 : Int32)).toNatClampNeg (.int (nar .char (58 : Int32)))).set ((2 : Int32)).toNatClampNeg (.int (nar .char (47 : Int32)))) := own_okset ok91 _ (by decide)
        have hin114 : ¬ ((2 : Int32) < 0 ∨ cl114.slots.size ≤ ((2 : Int32)).toNatClampNeg) := inb_of S114 (own_in (by decide))
        obtain ⟨T114, h114, X114, e114, W114, st114⟩ := stC X90 hx hZ e90 Ar114 (j := (2 : Int32)) hin114 (g := (mkF m 395 #[.val (.int p1), .val (.int p2), .val (.int p3), .val (.ref b2), .val (.int v95_0), .val (.int (1 : Int32)), .val (.int (2 : Int32)), .val (.int (2 : Int32)), .val (.int (2 : Int32)), .val (.int (-1 : Int32)), .unset, .val (.int (2 : Int32)), .unset, .unset, .unset, .unset] [(.int (47 : Int32)), (.int (2 : Int32)), (.ref b2)])) rfl rfl (hb hby at_395)
        have V0_114 := Arv.set Ar114 q114 S114 M114 H114 G114 (fits_nar_char _) W114 ((2 : Int32)).toNatClampNeg rfl (own_oklt ok91 (own_in (by decide)))
        have N114 := Fr.snoc X114 N90 g_b2
        have K114 : Keep h0 h114 [] := K90.wr W114 (Or.inr sz_b2)
        have Z114 : n0 ≤ h114.size := Nat.le_trans Z90 (Keep.of_wr W114).1
        have SCS_116 := SCS_92.wr W114
        have pre114 : ∀ t, Steps p.tables e below (T114.setTop (mkF m 396 #[.val (.int p1), .val (.int p2), .val (.int p3), .val (.ref b2), .val (.int v95_0), .val (.int (1 : Int32)), .val (.int (2 : Int32)), .val (.int (2 : Int32)), .val (.int (2 : Int32)), .val (.int (-1 : Int32)), .unset, .val (.int (2 : Int32)), .unset, .unset, .unset, .unset] [])) t → Steps p.tables e below (s₁.setTop (entryFrame m #[(.int p1), (.int p2), (.int p3)] maxLocals)) t := fun t kt => pre113 t (st114 _ kt)
        have pre118 : ∀ t, Steps p.tables e below (T114.setTop (mkF m 400 #[.val (.int p1), .val (.int p2), .val (.int p3), .val (.ref b2), .val (.int v95_0), .val (.int (1 : Int32)), .val (.int (2 : Int32)), .val (.int (2 : Int32)), .val (.int (2 : Int32)), .val (.int (-1 : Int32)), .unset, .val (.int (2 : Int32)), .unset, .unset, .unset, .unset] [(.int (46 : Int32)), (.int (3 : Int32)), (.ref b2)])) t → Steps p.tables e below (s₁.setTop (entryFrame m #[(.int p1), (.int p2), (.int p3)] maxLocals)) t := by
          intro t kt
          refine pre114 t ?_
          show Steps p.tables e below (T114.setTop (mkF m 396 #[.val (.int p1), .val (.int p2), .val (.int p3), .val (.ref b2), .val (.int v95_0), .val (.int (1 : Int32)), .val (.int (2 : Int32)), .val (.int (2 : Int32)), .val (.int (2 : Int32)), .val (.int (-1 : Int32)), .unset, .val (.int (2 : Int32)), .unset, .unset, .unset, .unset] [])) _
          refine XS.aloadN X114.here hx rfl (hb hby at_396) rfl rfl ?_
          show Steps p.tables e below (T114.setTop (mkF m 397 #[.val (.int p1), .val (.int p2), .val (.int p3), .val (.ref b2), .val (.int v95_0), .val (.int (1 : Int32)), .val (.int (2 : Int32)), .val (.int (2 : Int32)), .val (.int (2 : Int32)), .val (.int (-1 : Int32)), .unset, .val (.int (2 : Int32)), .unset, .unset, .unset, .unset] [(.ref b2)])) _
          refine XS.iconst X114.here hx rfl (hb hby at_397) ?_
          show Steps p.tables e below (T114.setTop (mkF m 398 #[.val (.int p1), .val (.int p2), .val (.int p3), .val (.ref b2), .val (.int v95_0), .val (.int (1 : Int32)), .val (.int (2 : Int32)), .val (.int (2 : Int32)), .val (.int (2 : Int32)), .val (.int (-1 : Int32)), .unset, .val (.int (2 : Int32)), .unset, .unset, .unset, .unset] [(.int (3 : Int32)), (.ref b2)])) _
          refine XS.bipush X114.here hx rfl (hb hby at_398) ?_
          exact kt
        obtain ⟨cl119, Ar119, q119, S119, M119, H119, G119⟩ := (id V0_114)
        have ok120 : own_ok ((((vs0.set ((0 : Int32)).toNatClampNeg (.int (nar .char (115 : Int32)))).set ((1 : Int32)).toNatClampNeg (.int (nar .char (58 : Int32)))).set ((2 : Int32)).toNatClampNeg (.int (nar .char (47 : Int32)))).set ((3 : Int32)).toNatClampNeg (.int (nar .char (46 : Int32)))) := own_okset ok115 _ (by decide)
        have hin119 : ¬ ((3 : Int32) < 0 ∨ cl119.slots.size ≤ ((3 : Int32)).toNatClampNeg) := inb_of S119 (own_in (by decide))
        obtain ⟨T119, h119, X119, e119, W119, st119⟩ := stC X114 hx hZ e114 Ar119 (j := (3 : Int32)) hin119 (g := (mkF m 400 #[.val (.int p1), .val (.int p2), .val (.int p3), .val (.ref b2), .val (.int v95_0), .val (.int (1 : Int32)), .val (.int (2 : Int32)), .val (.int (2 : Int32)), .val (.int (2 : Int32)), .val (.int (-1 : Int32)), .unset, .val (.int (2 : Int32)), .unset, .unset, .unset, .unset] [(.int (46 : Int32)), (.int (3 : Int32)), (.ref b2)])) rfl rfl (hb hby at_400)
        have V0_119 := Arv.set Ar119 q119 S119 M119 H119 G119 (fits_nar_char _) W119 ((3 : Int32)).toNatClampNeg rfl (own_oklt ok115 (own_in (by decide)))
        have N119 := Fr.snoc X119 N114 g_b2
        have K119 : Keep h0 h119 [] := K114.wr W119 (Or.inr sz_b2)
        have Z119 : n0 ≤ h119.size := Nat.le_trans Z114 (Keep.of_wr W119).1
        have SCS_121 := SCS_116.wr W119
        have pre119 : ∀ t, Steps p.tables e below (T119.setTop (mkF m 401 #[.val (.int p1), .val (.int p2), .val (.int p3), .val (.ref b2), .val (.int v95_0), .val (.int (1 : Int32)), .val (.int (2 : Int32)), .val (.int (2 : Int32)), .val (.int (2 : Int32)), .val (.int (-1 : Int32)), .unset, .val (.int (2 : Int32)), .unset, .unset, .unset, .unset] [])) t → Steps p.tables e below (s₁.setTop (entryFrame m #[(.int p1), (.int p2), (.int p3)] maxLocals)) t := fun t kt => pre118 t (st119 _ kt)
        have pre123 : ∀ t, Steps p.tables e below (T119.setTop (mkF m 405 #[.val (.int p1), .val (.int p2), .val (.int p3), .val (.ref b2), .val (.int v95_0), .val (.int (1 : Int32)), .val (.int (2 : Int32)), .val (.int (2 : Int32)), .val (.int (2 : Int32)), .val (.int (-1 : Int32)), .unset, .val (.int (2 : Int32)), .unset, .unset, .unset, .unset] [(.int (47 : Int32)), (.int (4 : Int32)), (.ref b2)])) t → Steps p.tables e below (s₁.setTop (entryFrame m #[(.int p1), (.int p2), (.int p3)] maxLocals)) t := by
          intro t kt
          refine pre119 t ?_
          show Steps p.tables e below (T119.setTop (mkF m 401 #[.val (.int p1), .val (.int p2), .val (.int p3), .val (.ref b2), .val (.int v95_0), .val (.int (1 : Int32)), .val (.int (2 : Int32)), .val (.int (2 : Int32)), .val (.int (2 : Int32)), .val (.int (-1 : Int32)), .unset, .val (.int (2 : Int32)), .unset, .unset, .unset, .unset] [])) _
          refine XS.aloadN X119.here hx rfl (hb hby at_401) rfl rfl ?_
          show Steps p.tables e below (T119.setTop (mkF m 402 #[.val (.int p1), .val (.int p2), .val (.int p3), .val (.ref b2), .val (.int v95_0), .val (.int (1 : Int32)), .val (.int (2 : Int32)), .val (.int (2 : Int32)), .val (.int (2 : Int32)), .val (.int (-1 : Int32)), .unset, .val (.int (2 : Int32)), .unset, .unset, .unset, .unset] [(.ref b2)])) _
          refine XS.iconst X119.here hx rfl (hb hby at_402) ?_
          show Steps p.tables e below (T119.setTop (mkF m 403 #[.val (.int p1), .val (.int p2), .val (.int p3), .val (.ref b2), .val (.int v95_0), .val (.int (1 : Int32)), .val (.int (2 : Int32)), .val (.int (2 : Int32)), .val (.int (2 : Int32)), .val (.int (-1 : Int32)), .unset, .val (.int (2 : Int32)), .unset, .unset, .unset, .unset] [(.int (4 : Int32)), (.ref b2)])) _
          refine XS.bipush X119.here hx rfl (hb hby at_403) ?_
          exact kt
        obtain ⟨cl124, Ar124, q124, S124, M124, H124, G124⟩ := (id V0_119)
        have ok125 : own_ok (((((vs0.set ((0 : Int32)).toNatClampNeg (.int (nar .char (115 : Int32)))).set ((1 : Int32)).toNatClampNeg (.int (nar .char (58 : Int32)))).set ((2 : Int32)).toNatClampNeg (.int (nar .char (47 : Int32)))).set ((3 : Int32)).toNatClampNeg (.int (nar .char (46 : Int32)))).set ((4 : Int32)).toNatClampNeg (.int (nar .char (47 : Int32)))) := own_okset ok120 _ (by decide)
        have hin124 : ¬ ((4 : Int32) < 0 ∨ cl124.slots.size ≤ ((4 : Int32)).toNatClampNeg) := inb_of S124 (own_in (by decide))
        obtain ⟨T124, h124, X124, e124, W124, st124⟩ := stC X119 hx hZ e119 Ar124 (j := (4 : Int32)) hin124 (g := (mkF m 405 #[.val (.int p1), .val (.int p2), .val (.int p3), .val (.ref b2), .val (.int v95_0), .val (.int (1 : Int32)), .val (.int (2 : Int32)), .val (.int (2 : Int32)), .val (.int (2 : Int32)), .val (.int (-1 : Int32)), .unset, .val (.int (2 : Int32)), .unset, .unset, .unset, .unset] [(.int (47 : Int32)), (.int (4 : Int32)), (.ref b2)])) rfl rfl (hb hby at_405)
        have V0_124 := Arv.set Ar124 q124 S124 M124 H124 G124 (fits_nar_char _) W124 ((4 : Int32)).toNatClampNeg rfl (own_oklt ok120 (own_in (by decide)))
        have N124 := Fr.snoc X124 N119 g_b2
        have K124 : Keep h0 h124 [] := K119.wr W124 (Or.inr sz_b2)
        have Z124 : n0 ≤ h124.size := Nat.le_trans Z119 (Keep.of_wr W124).1
        have SCS_126 := SCS_121.wr W124
        have pre124 : ∀ t, Steps p.tables e below (T124.setTop (mkF m 406 #[.val (.int p1), .val (.int p2), .val (.int p3), .val (.ref b2), .val (.int v95_0), .val (.int (1 : Int32)), .val (.int (2 : Int32)), .val (.int (2 : Int32)), .val (.int (2 : Int32)), .val (.int (-1 : Int32)), .unset, .val (.int (2 : Int32)), .unset, .unset, .unset, .unset] [])) t → Steps p.tables e below (s₁.setTop (entryFrame m #[(.int p1), (.int p2), (.int p3)] maxLocals)) t := fun t kt => pre123 t (st124 _ kt)
        have pre128 : ∀ t, Steps p.tables e below (T124.setTop (mkF m 410 #[.val (.int p1), .val (.int p2), .val (.int p3), .val (.ref b2), .val (.int v95_0), .val (.int (1 : Int32)), .val (.int (2 : Int32)), .val (.int (2 : Int32)), .val (.int (2 : Int32)), .val (.int (-1 : Int32)), .unset, .val (.int (2 : Int32)), .unset, .unset, .unset, .unset] [(.int (47 : Int32)), (.int (5 : Int32)), (.ref b2)])) t → Steps p.tables e below (s₁.setTop (entryFrame m #[(.int p1), (.int p2), (.int p3)] maxLocals)) t := by
          intro t kt
          refine pre124 t ?_
          show Steps p.tables e below (T124.setTop (mkF m 406 #[.val (.int p1), .val (.int p2), .val (.int p3), .val (.ref b2), .val (.int v95_0), .val (.int (1 : Int32)), .val (.int (2 : Int32)), .val (.int (2 : Int32)), .val (.int (2 : Int32)), .val (.int (-1 : Int32)), .unset, .val (.int (2 : Int32)), .unset, .unset, .unset, .unset] [])) _
          refine XS.aloadN X124.here hx rfl (hb hby at_406) rfl rfl ?_
          show Steps p.tables e below (T124.setTop (mkF m 407 #[.val (.int p1), .val (.int p2), .val (.int p3), .val (.ref b2), .val (.int v95_0), .val (.int (1 : Int32)), .val (.int (2 : Int32)), .val (.int (2 : Int32)), .val (.int (2 : Int32)), .val (.int (-1 : Int32)), .unset, .val (.int (2 : Int32)), .unset, .unset, .unset, .unset] [(.ref b2)])) _
          refine XS.iconst X124.here hx rfl (hb hby at_407) ?_
          show Steps p.tables e below (T124.setTop (mkF m 408 #[.val (.int p1), .val (.int p2), .val (.int p3), .val (.ref b2), .val (.int v95_0), .val (.int (1 : Int32)), .val (.int (2 : Int32)), .val (.int (2 : Int32)), .val (.int (2 : Int32)), .val (.int (-1 : Int32)), .unset, .val (.int (2 : Int32)), .unset, .unset, .unset, .unset] [(.int (5 : Int32)), (.ref b2)])) _
          refine XS.bipush X124.here hx rfl (hb hby at_408) ?_
          exact kt
        obtain ⟨cl129, Ar129, q129, S129, M129, H129, G129⟩ := (id V0_124)
        have ok130 : own_ok ((((((vs0.set ((0 : Int32)).toNatClampNeg (.int (nar .char (115 : Int32)))).set ((1 : Int32)).toNatClampNeg (.int (nar .char (58 : Int32)))).set ((2 : Int32)).toNatClampNeg (.int (nar .char (47 : Int32)))).set ((3 : Int32)).toNatClampNeg (.int (nar .char (46 : Int32)))).set ((4 : Int32)).toNatClampNeg (.int (nar .char (47 : Int32)))).set ((5 : Int32)).toNatClampNeg (.int (nar .char (47 : Int32)))) := own_okset ok125 _ (by decide)
        have hin129 : ¬ ((5 : Int32) < 0 ∨ cl129.slots.size ≤ ((5 : Int32)).toNatClampNeg) := inb_of S129 (own_in (by decide))
        obtain ⟨T129, h129, X129, e129, W129, st129⟩ := stC X124 hx hZ e124 Ar129 (j := (5 : Int32)) hin129 (g := (mkF m 410 #[.val (.int p1), .val (.int p2), .val (.int p3), .val (.ref b2), .val (.int v95_0), .val (.int (1 : Int32)), .val (.int (2 : Int32)), .val (.int (2 : Int32)), .val (.int (2 : Int32)), .val (.int (-1 : Int32)), .unset, .val (.int (2 : Int32)), .unset, .unset, .unset, .unset] [(.int (47 : Int32)), (.int (5 : Int32)), (.ref b2)])) rfl rfl (hb hby at_410)
        have V0_129 := Arv.set Ar129 q129 S129 M129 H129 G129 (fits_nar_char _) W129 ((5 : Int32)).toNatClampNeg rfl (own_oklt ok125 (own_in (by decide)))
        have N129 := Fr.snoc X129 N124 g_b2
        have K129 : Keep h0 h129 [] := K124.wr W129 (Or.inr sz_b2)
        have Z129 : n0 ≤ h129.size := Nat.le_trans Z124 (Keep.of_wr W129).1
        have SCS_131 := SCS_126.wr W129
        have pre129 : ∀ t, Steps p.tables e below (T129.setTop (mkF m 411 #[.val (.int p1), .val (.int p2), .val (.int p3), .val (.ref b2), .val (.int v95_0), .val (.int (1 : Int32)), .val (.int (2 : Int32)), .val (.int (2 : Int32)), .val (.int (2 : Int32)), .val (.int (-1 : Int32)), .unset, .val (.int (2 : Int32)), .unset, .unset, .unset, .unset] [])) t → Steps p.tables e below (s₁.setTop (entryFrame m #[(.int p1), (.int p2), (.int p3)] maxLocals)) t := fun t kt => pre128 t (st129 _ kt)
        have pre133 : ∀ t, Steps p.tables e below (T129.setTop (mkF m 438 #[.val (.int p1), .val (.int p2), .val (.int p3), .val (.ref b2), .val (.int v95_0), .val (.int (1 : Int32)), .val (.int (2 : Int32)), .val (.int (2 : Int32)), .val (.int (2 : Int32)), .val (.int (-1 : Int32)), .val (.int (4 : Int32)), .val (.int (2 : Int32)), .unset, .unset, .unset, .unset] [])) t → Steps p.tables e below (s₁.setTop (entryFrame m #[(.int p1), (.int p2), (.int p3)] maxLocals)) t := by
          intro t kt
          refine pre129 t ?_
          show Steps p.tables e below (T129.setTop (mkF m 411 #[.val (.int p1), .val (.int p2), .val (.int p3), .val (.ref b2), .val (.int v95_0), .val (.int (1 : Int32)), .val (.int (2 : Int32)), .val (.int (2 : Int32)), .val (.int (2 : Int32)), .val (.int (-1 : Int32)), .unset, .val (.int (2 : Int32)), .unset, .unset, .unset, .unset] [])) _
          refine XS.iconst X129.here hx rfl (hb hby at_411) ?_
          show Steps p.tables e below (T129.setTop (mkF m 412 #[.val (.int p1), .val (.int p2), .val (.int p3), .val (.ref b2), .val (.int v95_0), .val (.int (1 : Int32)), .val (.int (2 : Int32)), .val (.int (2 : Int32)), .val (.int (2 : Int32)), .val (.int (-1 : Int32)), .unset, .val (.int (2 : Int32)), .unset, .unset, .unset, .unset] [(.int (4 : Int32))])) _
          refine XS.istore X129.here hx rfl (hb hby at_412) rfl (l' := #[.val (.int p1), .val (.int p2), .val (.int p3), .val (.ref b2), .val (.int v95_0), .val (.int (1 : Int32)), .val (.int (2 : Int32)), .val (.int (2 : Int32)), .val (.int (2 : Int32)), .val (.int (-1 : Int32)), .val (.int (4 : Int32)), .val (.int (2 : Int32)), .unset, .unset, .unset, .unset]) rfl ?_
          show Steps p.tables e below (T129.setTop (mkF m 414 #[.val (.int p1), .val (.int p2), .val (.int p3), .val (.ref b2), .val (.int v95_0), .val (.int (1 : Int32)), .val (.int (2 : Int32)), .val (.int (2 : Int32)), .val (.int (2 : Int32)), .val (.int (-1 : Int32)), .val (.int (4 : Int32)), .val (.int (2 : Int32)), .unset, .unset, .unset, .unset] [])) _
          refine XS.goto X129.here hx rfl (pc0 := 414) (pc' := 438) rfl (hb hby at_414) (by decide) (by decide) ?_
          exact kt
        exact ⟨_, _, _, _, X129, e129, N129, K129, Z129, SCS_131, V0_129, ok130, (by (try simp only [if_neg hc388]); exact pre133)⟩
    obtain ⟨T134, h134, X134, e134, E134, A134, D134, -, st134⟩ := newO X99 hx hZ hown (hw _ (List.mem_of_getElem? (i := 1) rfl)) (hw _ (List.mem_of_getElem? (i := 2) rfl)) (hw _ (List.mem_of_getElem? (i := 3) rfl)) e99 (g := (mkF m 438 #[.val (.int p1), .val (.int p2), .val (.int p3), .val (.ref b2), .val (.int v95_0), .val (.int (1 : Int32)), .val (.int (2 : Int32)), .val (.int (2 : Int32)), .val (.int (2 : Int32)), .val (.int (-1 : Int32)), .val (.int (if (p1 &&& (2 : Int32)) = (0 : Int32) then (2 : Int32) else (4 : Int32))), .val (.int (2 : Int32)), .unset, .unset, .unset, .unset] [])) rfl (hb hby at_438) (by decide) (by decide)
    obtain ⟨b134, g134⟩ : ∃ z, z = h99.size := ⟨_, rfl⟩
    have ne_b2_b134 : b2 ≠ b134 := Nat.ne_of_lt (Nat.lt_of_lt_of_le V0_99.lt (Nat.le_of_eq g134.symm))
    have g_b134 : n0 ≤ b134 := Nat.le_trans Z99 (Nat.le_of_eq g134.symm)
    have sz_b134 : h0.size ≤ b134 := Nat.le_trans K99.1 (Nat.le_of_eq g134.symm)
    rw [← g134] at A134 D134 st134
    have K134 : Keep h0 h134 [] := K99.ext E134
    have Z134 : n0 ≤ h134.size := Nat.le_trans Z99 E134.1
    have SCS_135 := SCS_99.ext E134
    have V0_136 := V0_99.ext E134
    have F_href_b134 : Fld Z h134 b134 "com/example/meyrin/meyrin/Url" "href" "Ljava/lang/String;" .null := D134 (Or.inr (hw _ (List.mem_of_getElem? (i := 38) rfl))) (ty := (.object "java/lang/String")) (by decide)
    have F_schemeEnd_b134 : Fld Z h134 b134 "com/example/meyrin/meyrin/Url" "schemeEnd" "I" (.int (0 : Int32)) := D134 (Or.inr (hw _ (List.mem_of_getElem? (i := 40) rfl))) (ty := .int) (by decide)
    have F_usernameEnd_b134 : Fld Z h134 b134 "com/example/meyrin/meyrin/Url" "usernameEnd" "I" (.int (0 : Int32)) := D134 (Or.inr (hw _ (List.mem_of_getElem? (i := 42) rfl))) (ty := .int) (by decide)
    have F_hostStart_b134 : Fld Z h134 b134 "com/example/meyrin/meyrin/Url" "hostStart" "I" (.int (0 : Int32)) := D134 (Or.inr (hw _ (List.mem_of_getElem? (i := 44) rfl))) (ty := .int) (by decide)
    have F_hostEnd_b134 : Fld Z h134 b134 "com/example/meyrin/meyrin/Url" "hostEnd" "I" (.int (0 : Int32)) := D134 (Or.inr (hw _ (List.mem_of_getElem? (i := 46) rfl))) (ty := .int) (by decide)
    have F_port_b134 : Fld Z h134 b134 "com/example/meyrin/meyrin/Url" "port" "I" (.int (0 : Int32)) := D134 (Or.inr (hw _ (List.mem_of_getElem? (i := 48) rfl))) (ty := .int) (by decide)
    have F_pathStart_b134 : Fld Z h134 b134 "com/example/meyrin/meyrin/Url" "pathStart" "I" (.int (0 : Int32)) := D134 (Or.inr (hw _ (List.mem_of_getElem? (i := 50) rfl))) (ty := .int) (by decide)
    have F_pathEnd_b134 : Fld Z h134 b134 "com/example/meyrin/meyrin/Url" "pathEnd" "I" (.int (0 : Int32)) := D134 (Or.inr (hw _ (List.mem_of_getElem? (i := 52) rfl))) (ty := .int) (by decide)
    have F_queryEnd_b134 : Fld Z h134 b134 "com/example/meyrin/meyrin/Url" "queryEnd" "I" (.int (0 : Int32)) := D134 (Or.inr (hw _ (List.mem_of_getElem? (i := 54) rfl))) (ty := .int) (by decide)
    have pre134 : ∀ t, Steps p.tables e below (T134.setTop (mkF m 441 #[.val (.int p1), .val (.int p2), .val (.int p3), .val (.ref b2), .val (.int v95_0), .val (.int (1 : Int32)), .val (.int (2 : Int32)), .val (.int (2 : Int32)), .val (.int (2 : Int32)), .val (.int (-1 : Int32)), .val (.int (if (p1 &&& (2 : Int32)) = (0 : Int32) then (2 : Int32) else (4 : Int32))), .val (.int (2 : Int32)), .unset, .unset, .unset, .unset] [(.ref b134)])) t → Steps p.tables e below (s₁.setTop (entryFrame m #[(.int p1), (.int p2), (.int p3)] maxLocals)) t := fun t kt => pre99 t (st134 _ kt)
    have pre137 : ∀ t, Steps p.tables e below (T134.setTop (mkF m 442 #[.val (.int p1), .val (.int p2), .val (.int p3), .val (.ref b2), .val (.int v95_0), .val (.int (1 : Int32)), .val (.int (2 : Int32)), .val (.int (2 : Int32)), .val (.int (2 : Int32)), .val (.int (-1 : Int32)), .val (.int (if (p1 &&& (2 : Int32)) = (0 : Int32) then (2 : Int32) else (4 : Int32))), .val (.int (2 : Int32)), .unset, .unset, .unset, .unset] [(.ref b134), (.ref b134)])) t → Steps p.tables e below (s₁.setTop (entryFrame m #[(.int p1), (.int p2), (.int p3)] maxLocals)) t := by
      intro t kt
      refine pre134 t ?_
      show Steps p.tables e below (T134.setTop (mkF m 441 #[.val (.int p1), .val (.int p2), .val (.int p3), .val (.ref b2), .val (.int v95_0), .val (.int (1 : Int32)), .val (.int (2 : Int32)), .val (.int (2 : Int32)), .val (.int (2 : Int32)), .val (.int (-1 : Int32)), .val (.int (if (p1 &&& (2 : Int32)) = (0 : Int32) then (2 : Int32) else (4 : Int32))), .val (.int (2 : Int32)), .unset, .unset, .unset, .unset] [(.ref b134)])) _
      refine XS.dup X134.here hx rfl (hb hby at_441) rfl rfl ?_
      exact kt
    obtain ⟨T138, h138, X138, e138, E138, A138, D138, -, st138⟩ := newO X134 hx hZ hown (hw _ (List.mem_of_getElem? (i := 4) rfl)) (hw _ (List.mem_of_getElem? (i := 5) rfl)) (hw _ (List.mem_of_getElem? (i := 6) rfl)) e134 (g := (mkF m 442 #[.val (.int p1), .val (.int p2), .val (.int p3), .val (.ref b2), .val (.int v95_0), .val (.int (1 : Int32)), .val (.int (2 : Int32)), .val (.int (2 : Int32)), .val (.int (2 : Int32)), .val (.int (-1 : Int32)), .val (.int (if (p1 &&& (2 : Int32)) = (0 : Int32) then (2 : Int32) else (4 : Int32))), .val (.int (2 : Int32)), .unset, .unset, .unset, .unset] [(.ref b134), (.ref b134)])) rfl (hb hby at_442) (by decide) (by decide)
    obtain ⟨b138, g138⟩ : ∃ z, z = h134.size := ⟨_, rfl⟩
    have ne_b2_b138 : b2 ≠ b138 := Nat.ne_of_lt (Nat.lt_of_lt_of_le V0_136.lt (Nat.le_of_eq g138.symm))
    have ne_b134_b138 : b134 ≠ b138 := Nat.ne_of_lt (Nat.lt_of_lt_of_le A134.lt (Nat.le_of_eq g138.symm))
    have g_b138 : n0 ≤ b138 := Nat.le_trans Z134 (Nat.le_of_eq g138.symm)
    have sz_b138 : h0.size ≤ b138 := Nat.le_trans K134.1 (Nat.le_of_eq g138.symm)
    rw [← g138] at A138 D138 st138
    have K138 : Keep h0 h138 [] := K134.ext E138
    have Z138 : n0 ≤ h138.size := Nat.le_trans Z134 E138.1
    have SCS_139 := SCS_135.ext E138
    have V0_140 := V0_136.ext E138
    have A134_141 := A134.ext E138
    have F_href_b134_142 := F_href_b134.ext E138
    have F_schemeEnd_b134_143 := F_schemeEnd_b134.ext E138
    have F_usernameEnd_b134_144 := F_usernameEnd_b134.ext E138
    have F_hostStart_b134_145 := F_hostStart_b134.ext E138
    have F_hostEnd_b134_146 := F_hostEnd_b134.ext E138
    have F_port_b134_147 := F_port_b134.ext E138
    have F_pathStart_b134_148 := F_pathStart_b134.ext E138
    have F_pathEnd_b134_149 := F_pathEnd_b134.ext E138
    have F_queryEnd_b134_150 := F_queryEnd_b134.ext E138
    have F_coder_b138 : Fld Z h138 b138 "java/lang/String" "coder" "B" (.int (0 : Int32)) := D138 (Or.inr (hw _ (List.mem_of_getElem? (i := 30) rfl))) (ty := .byte) (by decide)
    have F_value_b138 : Fld Z h138 b138 "java/lang/String" "value" "[B" .null := D138 (Or.inr (hw _ (List.mem_of_getElem? (i := 32) rfl))) (ty := (.array .byte)) (by decide)
    have pre138 : ∀ t, Steps p.tables e below (T138.setTop (mkF m 445 #[.val (.int p1), .val (.int p2), .val (.int p3), .val (.ref b2), .val (.int v95_0), .val (.int (1 : Int32)), .val (.int (2 : Int32)), .val (.int (2 : Int32)), .val (.int (2 : Int32)), .val (.int (-1 : Int32)), .val (.int (if (p1 &&& (2 : Int32)) = (0 : Int32) then (2 : Int32) else (4 : Int32))), .val (.int (2 : Int32)), .unset, .unset, .unset, .unset] [(.ref b138), (.ref b134), (.ref b134)])) t → Steps p.tables e below (s₁.setTop (entryFrame m #[(.int p1), (.int p2), (.int p3)] maxLocals)) t := fun t kt => pre137 t (st138 _ kt)
    have pre151 : ∀ t, Steps p.tables e below (T138.setTop (mkF m 447 #[.val (.int p1), .val (.int p2), .val (.int p3), .val (.ref b2), .val (.int v95_0), .val (.int (1 : Int32)), .val (.int (2 : Int32)), .val (.int (2 : Int32)), .val (.int (2 : Int32)), .val (.int (-1 : Int32)), .val (.int (if (p1 &&& (2 : Int32)) = (0 : Int32) then (2 : Int32) else (4 : Int32))), .val (.int (2 : Int32)), .unset, .unset, .unset, .unset] [(.ref b2), (.ref b138), (.ref b138), (.ref b134), (.ref b134)])) t → Steps p.tables e below (s₁.setTop (entryFrame m #[(.int p1), (.int p2), (.int p3)] maxLocals)) t := by
      intro t kt
      refine pre138 t ?_
      show Steps p.tables e below (T138.setTop (mkF m 445 #[.val (.int p1), .val (.int p2), .val (.int p3), .val (.ref b2), .val (.int v95_0), .val (.int (1 : Int32)), .val (.int (2 : Int32)), .val (.int (2 : Int32)), .val (.int (2 : Int32)), .val (.int (-1 : Int32)), .val (.int (if (p1 &&& (2 : Int32)) = (0 : Int32) then (2 : Int32) else (4 : Int32))), .val (.int (2 : Int32)), .unset, .unset, .unset, .unset] [(.ref b138), (.ref b134), (.ref b134)])) _
      refine XS.dup X138.here hx rfl (hb hby at_445) rfl rfl ?_
      show Steps p.tables e below (T138.setTop (mkF m 446 #[.val (.int p1), .val (.int p2), .val (.int p3), .val (.ref b2), .val (.int v95_0), .val (.int (1 : Int32)), .val (.int (2 : Int32)), .val (.int (2 : Int32)), .val (.int (2 : Int32)), .val (.int (-1 : Int32)), .val (.int (if (p1 &&& (2 : Int32)) = (0 : Int32) then (2 : Int32) else (4 : Int32))), .val (.int (2 : Int32)), .unset, .unset, .unset, .unset] [(.ref b138), (.ref b138), (.ref b134), (.ref b134)])) _
      refine XS.aloadN X138.here hx rfl (hb hby at_446) rfl rfl ?_
      exact kt
    obtain ⟨cs152, ecs152, hlen152, hcs152⟩ := okvs99_0
    have VS152 := V0_140
    rw [ecs152] at VS152
    obtain ⟨_, _, ⟨T152, L152, k152, n152⟩, -, X152, ⟨Lc152, hQ152, l152, y152, z152⟩, st152⟩ := X138.specialBack hx (y := (⟨"java/lang/String", "<init>", "([C)V"⟩ : MethodName)) rfl hown (mvT hZ (hw _ (List.mem_of_getElem? (i := 7) rfl))) (mvT hZ (hw _ (List.mem_of_getElem? (i := 8) rfl))) (mvT hZ (hw _ (List.mem_of_getElem? (i := 9) rfl))) (by decide) (StrChars.Road.backV (W := 3) hZ hws (kI := 4) (hw _ (List.mem_of_getElem? (i := 5) rfl)) (cs := cs152) (bs := cs152.map (fun c => c.toInt8.toInt32)) (n := 20) g_b138 Z138 A138 F_value_b138 F_coder_b138 VS152 SCS_139 hCS hlen152 rfl (by decide) (by decide) hcs152 rfl (by decide) (by decide)) (g := (mkF m 447 #[.val (.int p1), .val (.int p2), .val (.int p3), .val (.ref b2), .val (.int v95_0), .val (.int (1 : Int32)), .val (.int (2 : Int32)), .val (.int (2 : Int32)), .val (.int (2 : Int32)), .val (.int (-1 : Int32)), .val (.int (if (p1 &&& (2 : Int32)) = (0 : Int32) then (2 : Int32) else (4 : Int32))), .val (.int (2 : Int32)), .unset, .unset, .unset, .unset] [(.ref b2), (.ref b138), (.ref b138), (.ref b134), (.ref b134)])) rfl (by rw [hml]; rfl) (Steps.refl _) (a := b138) (argsL := [(.ref b2)]) (rest := [(.ref b138), (.ref b134), (.ref b134)]) (lenOf pd_0 rfl) rfl (by show 2 * 0 + _ ≤ _; exact Nat.le_of_eq rfl) (hb hby at_447) (fun _ _ => ⟨rfl, e138, (by decide : 3 + 1 ≤ _), (by decide : 33 + 20 ≤ _)⟩)
    dsimp only [Pt.U, Pt.locs, Pt.cells, Pt.slots] at X152 l152 y152 z152 st152 hQ152
    subst l152 y152 z152
    obtain ⟨rfl, N152q, KC152, EQ152, CQ152, tq152, kbq152, gq152, gr152, gs152, FQ152, VQ152⟩ := hQ152
    have N152 := Fr.app N99 N152q
    have Z152 : n0 ≤ T152.heap.size := Nat.le_trans Z138 KC152.1
    have K152 : Keep h0 T152.heap [] := K138.trans KC152 (allS (Or.inr sz_b138) all0)
    have SCS_153 := own_stak SCS_139 KC152 (nsS A138.nostat ns0)
    have V0_154 := V0_140.keep KC152 (ninS ne_b2_b138 nin0)
    have A134_155 := A134_141.keep KC152
    have F_href_b134_156 := F_href_b134_142.keep KC152 (ninS ne_b134_b138 nin0)
    have F_schemeEnd_b134_157 := F_schemeEnd_b134_143.keep KC152 (ninS ne_b134_b138 nin0)
    have F_usernameEnd_b134_158 := F_usernameEnd_b134_144.keep KC152 (ninS ne_b134_b138 nin0)
    have F_hostStart_b134_159 := F_hostStart_b134_145.keep KC152 (ninS ne_b134_b138 nin0)
    have F_hostEnd_b134_160 := F_hostEnd_b134_146.keep KC152 (ninS ne_b134_b138 nin0)
    have F_port_b134_161 := F_port_b134_147.keep KC152 (ninS ne_b134_b138 nin0)
    have F_pathStart_b134_162 := F_pathStart_b134_148.keep KC152 (ninS ne_b134_b138 nin0)
    have F_pathEnd_b134_163 := F_pathEnd_b134_149.keep KC152 (ninS ne_b134_b138 nin0)
    have F_queryEnd_b134_164 := F_queryEnd_b134_150.keep KC152 (ninS ne_b134_b138 nin0)
    have A138_165 := A138.keep KC152
    have pre152 : ∀ t, Steps p.tables e below (T152.setTop (mkF m 450 #[.val (.int p1), .val (.int p2), .val (.int p3), .val (.ref b2), .val (.int v95_0), .val (.int (1 : Int32)), .val (.int (2 : Int32)), .val (.int (2 : Int32)), .val (.int (2 : Int32)), .val (.int (-1 : Int32)), .val (.int (if (p1 &&& (2 : Int32)) = (0 : Int32) then (2 : Int32) else (4 : Int32))), .val (.int (2 : Int32)), .unset, .unset, .unset, .unset] [(.ref b138), (.ref b134), (.ref b134)])) t → Steps p.tables e below (s₁.setTop (entryFrame m #[(.int p1), (.int p2), (.int p3)] maxLocals)) t := fun t kt => pre151 t (st152.trans kt)
    have pre168 : ∀ t, Steps p.tables e below (T152.setTop (mkF m 466 #[.val (.int p1), .val (.int p2), .val (.int p3), .val (.ref b2), .val (.int v95_0), .val (.int (1 : Int32)), .val (.int (2 : Int32)), .val (.int (2 : Int32)), .val (.int (2 : Int32)), .val (.int (-1 : Int32)), .val (.int (if (p1 &&& (2 : Int32)) = (0 : Int32) then (2 : Int32) else (4 : Int32))), .val (.int (2 : Int32)), .unset, .unset, .unset, .unset] [(.int (20 : Int32)), (.int (20 : Int32)), (.int (if (p1 &&& (2 : Int32)) = (0 : Int32) then (2 : Int32) else (4 : Int32))), (.int (-1 : Int32)), (.int (2 : Int32)), (.int (2 : Int32)), (.int (2 : Int32)), (.int (1 : Int32)), (.ref b138), (.ref b134), (.ref b134)])) t → Steps p.tables e below (s₁.setTop (entryFrame m #[(.int p1), (.int p2), (.int p3)] maxLocals)) t := by
      intro t kt
      refine pre152 t ?_
      show Steps p.tables e below (T152.setTop (mkF m 450 #[.val (.int p1), .val (.int p2), .val (.int p3), .val (.ref b2), .val (.int v95_0), .val (.int (1 : Int32)), .val (.int (2 : Int32)), .val (.int (2 : Int32)), .val (.int (2 : Int32)), .val (.int (-1 : Int32)), .val (.int (if (p1 &&& (2 : Int32)) = (0 : Int32) then (2 : Int32) else (4 : Int32))), .val (.int (2 : Int32)), .unset, .unset, .unset, .unset] [(.ref b138), (.ref b134), (.ref b134)])) _
      refine XS.iload X152.here hx rfl (hb hby at_450) rfl ?_
      show Steps p.tables e below (T152.setTop (mkF m 452 #[.val (.int p1), .val (.int p2), .val (.int p3), .val (.ref b2), .val (.int v95_0), .val (.int (1 : Int32)), .val (.int (2 : Int32)), .val (.int (2 : Int32)), .val (.int (2 : Int32)), .val (.int (-1 : Int32)), .val (.int (if (p1 &&& (2 : Int32)) = (0 : Int32) then (2 : Int32) else (4 : Int32))), .val (.int (2 : Int32)), .unset, .unset, .unset, .unset] [(.int (1 : Int32)), (.ref b138), (.ref b134), (.ref b134)])) _
      refine XS.iload X152.here hx rfl (hb hby at_452) rfl ?_
      show Steps p.tables e below (T152.setTop (mkF m 454 #[.val (.int p1), .val (.int p2), .val (.int p3), .val (.ref b2), .val (.int v95_0), .val (.int (1 : Int32)), .val (.int (2 : Int32)), .val (.int (2 : Int32)), .val (.int (2 : Int32)), .val (.int (-1 : Int32)), .val (.int (if (p1 &&& (2 : Int32)) = (0 : Int32) then (2 : Int32) else (4 : Int32))), .val (.int (2 : Int32)), .unset, .unset, .unset, .unset] [(.int (2 : Int32)), (.int (1 : Int32)), (.ref b138), (.ref b134), (.ref b134)])) _
      refine XS.iload X152.here hx rfl (hb hby at_454) rfl ?_
      show Steps p.tables e below (T152.setTop (mkF m 456 #[.val (.int p1), .val (.int p2), .val (.int p3), .val (.ref b2), .val (.int v95_0), .val (.int (1 : Int32)), .val (.int (2 : Int32)), .val (.int (2 : Int32)), .val (.int (2 : Int32)), .val (.int (-1 : Int32)), .val (.int (if (p1 &&& (2 : Int32)) = (0 : Int32) then (2 : Int32) else (4 : Int32))), .val (.int (2 : Int32)), .unset, .unset, .unset, .unset] [(.int (2 : Int32)), (.int (2 : Int32)), (.int (1 : Int32)), (.ref b138), (.ref b134), (.ref b134)])) _
      refine XS.iload X152.here hx rfl (hb hby at_456) rfl ?_
      show Steps p.tables e below (T152.setTop (mkF m 458 #[.val (.int p1), .val (.int p2), .val (.int p3), .val (.ref b2), .val (.int v95_0), .val (.int (1 : Int32)), .val (.int (2 : Int32)), .val (.int (2 : Int32)), .val (.int (2 : Int32)), .val (.int (-1 : Int32)), .val (.int (if (p1 &&& (2 : Int32)) = (0 : Int32) then (2 : Int32) else (4 : Int32))), .val (.int (2 : Int32)), .unset, .unset, .unset, .unset] [(.int (2 : Int32)), (.int (2 : Int32)), (.int (2 : Int32)), (.int (1 : Int32)), (.ref b138), (.ref b134), (.ref b134)])) _
      refine XS.iload X152.here hx rfl (hb hby at_458) rfl ?_
      show Steps p.tables e below (T152.setTop (mkF m 460 #[.val (.int p1), .val (.int p2), .val (.int p3), .val (.ref b2), .val (.int v95_0), .val (.int (1 : Int32)), .val (.int (2 : Int32)), .val (.int (2 : Int32)), .val (.int (2 : Int32)), .val (.int (-1 : Int32)), .val (.int (if (p1 &&& (2 : Int32)) = (0 : Int32) then (2 : Int32) else (4 : Int32))), .val (.int (2 : Int32)), .unset, .unset, .unset, .unset] [(.int (-1 : Int32)), (.int (2 : Int32)), (.int (2 : Int32)), (.int (2 : Int32)), (.int (1 : Int32)), (.ref b138), (.ref b134), (.ref b134)])) _
      refine XS.iload X152.here hx rfl (hb hby at_460) rfl ?_
      show Steps p.tables e below (T152.setTop (mkF m 462 #[.val (.int p1), .val (.int p2), .val (.int p3), .val (.ref b2), .val (.int v95_0), .val (.int (1 : Int32)), .val (.int (2 : Int32)), .val (.int (2 : Int32)), .val (.int (2 : Int32)), .val (.int (-1 : Int32)), .val (.int (if (p1 &&& (2 : Int32)) = (0 : Int32) then (2 : Int32) else (4 : Int32))), .val (.int (2 : Int32)), .unset, .unset, .unset, .unset] [(.int (if (p1 &&& (2 : Int32)) = (0 : Int32) then (2 : Int32) else (4 : Int32))), (.int (-1 : Int32)), (.int (2 : Int32)), (.int (2 : Int32)), (.int (2 : Int32)), (.int (1 : Int32)), (.ref b138), (.ref b134), (.ref b134)])) _
      refine XS.bipush X152.here hx rfl (hb hby at_462) ?_
      show Steps p.tables e below (T152.setTop (mkF m 464 #[.val (.int p1), .val (.int p2), .val (.int p3), .val (.ref b2), .val (.int v95_0), .val (.int (1 : Int32)), .val (.int (2 : Int32)), .val (.int (2 : Int32)), .val (.int (2 : Int32)), .val (.int (-1 : Int32)), .val (.int (if (p1 &&& (2 : Int32)) = (0 : Int32) then (2 : Int32) else (4 : Int32))), .val (.int (2 : Int32)), .unset, .unset, .unset, .unset] [(.int (20 : Int32)), (.int (if (p1 &&& (2 : Int32)) = (0 : Int32) then (2 : Int32) else (4 : Int32))), (.int (-1 : Int32)), (.int (2 : Int32)), (.int (2 : Int32)), (.int (2 : Int32)), (.int (1 : Int32)), (.ref b138), (.ref b134), (.ref b134)])) _
      refine XS.bipush X152.here hx rfl (hb hby at_464) ?_
      exact kt
    obtain ⟨_, _, ⟨T169, L169, k169, n169⟩, -, X169, ⟨Lc169, hQ169, l169, y169, z169⟩, st169⟩ := X152.specialBack hx (y := (⟨"com/example/meyrin/meyrin/Url", "<init>", "(Ljava/lang/String;IIIIIIII)V"⟩ : MethodName)) rfl hown (mvT hZ (hw _ (List.mem_of_getElem? (i := 33) rfl))) (mvT hZ (hw _ (List.mem_of_getElem? (i := 34) rfl))) (mvT hZ (hw _ (List.mem_of_getElem? (i := 35) rfl))) (by decide) (backOf (W := 1) (rm7 l Z a0 hw [] b134 b138 (1 : Int32) (2 : Int32) (2 : Int32) (2 : Int32) (-1 : Int32) (if (p1 &&& (2 : Int32)) = (0 : Int32) then (2 : Int32) else (4 : Int32)) (20 : Int32) (20 : Int32) T152.heap n0 Z152 A134_155 F_href_b134_156 F_schemeEnd_b134_157 F_usernameEnd_b134_158 F_hostStart_b134_159 F_hostEnd_b134_160 F_port_b134_161 F_pathStart_b134_162 F_pathEnd_b134_163 F_queryEnd_b134_164 g_b134) hZ (hw _ (List.mem_of_getElem? (i := 35) rfl)) (hw _ (List.mem_of_getElem? (i := 3) rfl)) (by decide) (by decide)) (g := (mkF m 466 #[.val (.int p1), .val (.int p2), .val (.int p3), .val (.ref b2), .val (.int v95_0), .val (.int (1 : Int32)), .val (.int (2 : Int32)), .val (.int (2 : Int32)), .val (.int (2 : Int32)), .val (.int (-1 : Int32)), .val (.int (if (p1 &&& (2 : Int32)) = (0 : Int32) then (2 : Int32) else (4 : Int32))), .val (.int (2 : Int32)), .unset, .unset, .unset, .unset] [(.int (20 : Int32)), (.int (20 : Int32)), (.int (if (p1 &&& (2 : Int32)) = (0 : Int32) then (2 : Int32) else (4 : Int32))), (.int (-1 : Int32)), (.int (2 : Int32)), (.int (2 : Int32)), (.int (2 : Int32)), (.int (1 : Int32)), (.ref b138), (.ref b134), (.ref b134)])) rfl (by rw [hml]; rfl) (Steps.refl _) (a := b134) (argsL := [(.ref b138), (.int (1 : Int32)), (.int (2 : Int32)), (.int (2 : Int32)), (.int (2 : Int32)), (.int (-1 : Int32)), (.int (if (p1 &&& (2 : Int32)) = (0 : Int32) then (2 : Int32) else (4 : Int32))), (.int (20 : Int32)), (.int (20 : Int32))]) (rest := [(.ref b134)]) (lenOf pd_1 rfl) rfl (by show 2 * 0 + _ ≤ _; exact Nat.le_of_eq rfl) (hb hby at_466) (fun _ _ => ⟨rfl, rfl, (by decide : 4 + 0 ≤ _), (by decide : 53 + 0 ≤ _)⟩)
    dsimp only [Pt.U, Pt.locs, Pt.cells, Pt.slots] at X169 l169 y169 z169 st169 hQ169
    subst l169 y169 z169
    obtain ⟨rfl, N169q, KC169, P169_0, P169_1, P169_2, P169_3⟩ := hQ169
    have N169 := Fr.app N152 N169q
    have Z169 : n0 ≤ T169.heap.size := Nat.le_trans Z152 KC169.1
    have K169 : Keep h0 T169.heap [] := K152.trans KC169 (allS (Or.inr sz_b134) all0)
    have SCS_170 := own_stak SCS_153 KC169 (nsS A134_155.nostat ns0)
    have V0_171 := V0_154.keep KC169 (ninS ne_b2_b134 nin0)
    have A134_172 := A134_155.keep KC169
    have A138_182 := A138_165.keep KC169
    have E_b134_169 : Exa Z T169.heap b134 "com/example/meyrin/meyrin/Url" := P169_0
    have F_hostEnd_b134_169 : Fld Z T169.heap b134 "com/example/meyrin/meyrin/Url" "hostEnd" "I" (.int (2 : Int32)) := P169_1
    have F_port_b134_169 : Fld Z T169.heap b134 "com/example/meyrin/meyrin/Url" "port" "I" (.int (-1 : Int32)) := P169_2
    have F_pathStart_b134_169 : Fld Z T169.heap b134 "com/example/meyrin/meyrin/Url" "pathStart" "I" (.int (if (p1 &&& (2 : Int32)) = (0 : Int32) then (2 : Int32) else (4 : Int32))) := P169_3
    have pre169 : ∀ t, Steps p.tables e below (T169.setTop (mkF m 469 #[.val (.int p1), .val (.int p2), .val (.int p3), .val (.ref b2), .val (.int v95_0), .val (.int (1 : Int32)), .val (.int (2 : Int32)), .val (.int (2 : Int32)), .val (.int (2 : Int32)), .val (.int (-1 : Int32)), .val (.int (if (p1 &&& (2 : Int32)) = (0 : Int32) then (2 : Int32) else (4 : Int32))), .val (.int (2 : Int32)), .unset, .unset, .unset, .unset] [(.ref b134)])) t → Steps p.tables e below (s₁.setTop (entryFrame m #[(.int p1), (.int p2), (.int p3)] maxLocals)) t := fun t kt => pre168 t (st169.trans kt)
    have pre183 : ∀ t, Steps p.tables e below (T169.setTop (mkF m 473 #[.val (.int p1), .val (.int p2), .val (.int p3), .val (.ref b2), .val (.int v95_0), .val (.int (1 : Int32)), .val (.int (2 : Int32)), .val (.int (2 : Int32)), .val (.int (2 : Int32)), .val (.int (-1 : Int32)), .val (.int (if (p1 &&& (2 : Int32)) = (0 : Int32) then (2 : Int32) else (4 : Int32))), .val (.int (2 : Int32)), .val (.ref b134), .unset, .unset, .unset] [(.ref b134)])) t → Steps p.tables e below (s₁.setTop (entryFrame m #[(.int p1), (.int p2), (.int p3)] maxLocals)) t := by
      intro t kt
      refine pre169 t ?_
      show Steps p.tables e below (T169.setTop (mkF m 469 #[.val (.int p1), .val (.int p2), .val (.int p3), .val (.ref b2), .val (.int v95_0), .val (.int (1 : Int32)), .val (.int (2 : Int32)), .val (.int (2 : Int32)), .val (.int (2 : Int32)), .val (.int (-1 : Int32)), .val (.int (if (p1 &&& (2 : Int32)) = (0 : Int32) then (2 : Int32) else (4 : Int32))), .val (.int (2 : Int32)), .unset, .unset, .unset, .unset] [(.ref b134)])) _
      refine XS.astore X169.here hx rfl (hb hby at_469) rfl rfl (l' := #[.val (.int p1), .val (.int p2), .val (.int p3), .val (.ref b2), .val (.int v95_0), .val (.int (1 : Int32)), .val (.int (2 : Int32)), .val (.int (2 : Int32)), .val (.int (2 : Int32)), .val (.int (-1 : Int32)), .val (.int (if (p1 &&& (2 : Int32)) = (0 : Int32) then (2 : Int32) else (4 : Int32))), .val (.int (2 : Int32)), .val (.ref b134), .unset, .unset, .unset]) rfl ?_
      show Steps p.tables e below (T169.setTop (mkF m 471 #[.val (.int p1), .val (.int p2), .val (.int p3), .val (.ref b2), .val (.int v95_0), .val (.int (1 : Int32)), .val (.int (2 : Int32)), .val (.int (2 : Int32)), .val (.int (2 : Int32)), .val (.int (-1 : Int32)), .val (.int (if (p1 &&& (2 : Int32)) = (0 : Int32) then (2 : Int32) else (4 : Int32))), .val (.int (2 : Int32)), .val (.ref b134), .unset, .unset, .unset] [])) _
      refine XS.aload X169.here hx rfl (hb hby at_471) rfl rfl ?_
      exact kt
    obtain ⟨cq184, kq184, q184a, q184b, q184c⟩ := isOf hZ rfl E_b134_169
    obtain ⟨_, _, ⟨T184, L184, k184, n184⟩, -, X184, ⟨Lc184, hQ184, l184, y184, z184⟩, st184⟩ := X169.virtualBack hx (y := (⟨"com/example/meyrin/meyrin/Url", "authorityEnd", "()I"⟩ : MethodName)) (z := (⟨"com/example/meyrin/meyrin/Url", "authorityEnd", "()I"⟩ : MethodName)) hown (mvT hZ (hw _ (List.mem_of_getElem? (i := 55) rfl))) (mvT hZ (hw _ (List.mem_of_getElem? (i := 56) rfl))) (notFace_of_selects (args := #[]) (mvT hZ (hw _ (List.mem_of_getElem? (i := 58) rfl)))) (mvT hZ (hw _ (List.mem_of_getElem? (i := 58) rfl))) (mvT hZ (hw _ (List.mem_of_getElem? (i := 57) rfl))) (by decide) (backOf (W := 0) (rm8 l Z a0 hw [] b134 (-1 : Int32) (2 : Int32) (if (p1 &&& (2 : Int32)) = (0 : Int32) then (2 : Int32) else (4 : Int32)) T169.heap n0 Z169 F_port_b134_169 F_hostEnd_b134_169 F_pathStart_b134_169) hZ (hw _ (List.mem_of_getElem? (i := 59) rfl)) (hw _ (List.mem_of_getElem? (i := 3) rfl)) (by decide) (by decide)) q184a q184c (g := (mkF m 473 #[.val (.int p1), .val (.int p2), .val (.int p3), .val (.ref b2), .val (.int v95_0), .val (.int (1 : Int32)), .val (.int (2 : Int32)), .val (.int (2 : Int32)), .val (.int (2 : Int32)), .val (.int (-1 : Int32)), .val (.int (if (p1 &&& (2 : Int32)) = (0 : Int32) then (2 : Int32) else (4 : Int32))), .val (.int (2 : Int32)), .val (.ref b134), .unset, .unset, .unset] [(.ref b134)])) rfl (by rw [hml]; rfl) (Steps.refl _) (argsL := []) (rest := []) (lenOf pd_2 rfl) rfl (by show 2 * 0 + _ ≤ _; exact Nat.le_of_eq rfl) (hb hby at_473) (fun _ _ => ⟨rfl, rfl, (by decide : 4 + 0 ≤ _), (by decide : 53 + 0 ≤ _)⟩)
    dsimp only [Pt.U, Pt.locs, Pt.cells, Pt.slots] at X184 l184 y184 z184 st184 hQ184
    subst l184 y184 z184
    obtain ⟨rfl, N184q, e184⟩ := hQ184
    have N184 := Fr.app N169 N184q
    have pre184 : ∀ t, Steps p.tables e below (T184.setTop (mkF m 476 #[.val (.int p1), .val (.int p2), .val (.int p3), .val (.ref b2), .val (.int v95_0), .val (.int (1 : Int32)), .val (.int (2 : Int32)), .val (.int (2 : Int32)), .val (.int (2 : Int32)), .val (.int (-1 : Int32)), .val (.int (if (p1 &&& (2 : Int32)) = (0 : Int32) then (2 : Int32) else (4 : Int32))), .val (.int (2 : Int32)), .val (.ref b134), .unset, .unset, .unset] [(.int (if (-1 : Int32) < (0 : Int32) then (2 : Int32) else (if (p1 &&& (2 : Int32)) = (0 : Int32) then (2 : Int32) else (4 : Int32))))])) t → Steps p.tables e below (s₁.setTop (entryFrame m #[(.int p1), (.int p2), (.int p3)] maxLocals)) t := fun t kt => pre183 t (st184.trans kt)
    have pre185 : ∀ t, Steps p.tables e below (T184.setTop (mkF m 478 #[.val (.int p1), .val (.int p2), .val (.int p3), .val (.ref b2), .val (.int v95_0), .val (.int (1 : Int32)), .val (.int (2 : Int32)), .val (.int (2 : Int32)), .val (.int (2 : Int32)), .val (.int (-1 : Int32)), .val (.int (if (p1 &&& (2 : Int32)) = (0 : Int32) then (2 : Int32) else (4 : Int32))), .val (.int (2 : Int32)), .val (.ref b134), .unset, .unset, .unset] [(.int (2 : Int32)), (.int (if (-1 : Int32) < (0 : Int32) then (2 : Int32) else (if (p1 &&& (2 : Int32)) = (0 : Int32) then (2 : Int32) else (4 : Int32))))])) t → Steps p.tables e below (s₁.setTop (entryFrame m #[(.int p1), (.int p2), (.int p3)] maxLocals)) t := by
      intro t kt
      refine pre184 t ?_
      show Steps p.tables e below (T184.setTop (mkF m 476 #[.val (.int p1), .val (.int p2), .val (.int p3), .val (.ref b2), .val (.int v95_0), .val (.int (1 : Int32)), .val (.int (2 : Int32)), .val (.int (2 : Int32)), .val (.int (2 : Int32)), .val (.int (-1 : Int32)), .val (.int (if (p1 &&& (2 : Int32)) = (0 : Int32) then (2 : Int32) else (4 : Int32))), .val (.int (2 : Int32)), .val (.ref b134), .unset, .unset, .unset] [(.int (if (-1 : Int32) < (0 : Int32) then (2 : Int32) else (if (p1 &&& (2 : Int32)) = (0 : Int32) then (2 : Int32) else (4 : Int32))))])) _
      refine XS.iload X184.here hx rfl (hb hby at_476) rfl ?_
      exact kt
    obtain ⟨v186_0, hv186_0, pre186⟩ : ∃ (v186_0 : Int32), v186_0 = (if (if (-1 : Int32) < (0 : Int32) then (2 : Int32) else (if (p1 &&& (2 : Int32)) = (0 : Int32) then (2 : Int32) else (4 : Int32))) = (2 : Int32) then (1 : Int32) else (0 : Int32)) ∧ ∀ t, Steps p.tables e below (T184.setTop (mkF m 486 #[.val (.int p1), .val (.int p2), .val (.int p3), .val (.ref b2), .val (.int v95_0), .val (.int (1 : Int32)), .val (.int (2 : Int32)), .val (.int (2 : Int32)), .val (.int (2 : Int32)), .val (.int (-1 : Int32)), .val (.int (if (p1 &&& (2 : Int32)) = (0 : Int32) then (2 : Int32) else (4 : Int32))), .val (.int (2 : Int32)), .val (.ref b134), .unset, .unset, .unset] [(.int v186_0)])) t → Steps p.tables e below (s₁.setTop (entryFrame m #[(.int p1), (.int p2), (.int p3)] maxLocals)) t := by
      refine ⟨_, rfl, ?_⟩
      intro t kt
      refine pre185 t ?_
      show Steps p.tables e below (T184.setTop (mkF m 478 #[.val (.int p1), .val (.int p2), .val (.int p3), .val (.ref b2), .val (.int v95_0), .val (.int (1 : Int32)), .val (.int (2 : Int32)), .val (.int (2 : Int32)), .val (.int (2 : Int32)), .val (.int (-1 : Int32)), .val (.int (if (p1 &&& (2 : Int32)) = (0 : Int32) then (2 : Int32) else (4 : Int32))), .val (.int (2 : Int32)), .val (.ref b134), .unset, .unset, .unset] [(.int (2 : Int32)), (.int (if (-1 : Int32) < (0 : Int32) then (2 : Int32) else (if (p1 &&& (2 : Int32)) = (0 : Int32) then (2 : Int32) else (4 : Int32))))])) _
      by_cases hc478 : (if (-1 : Int32) < (0 : Int32) then (2 : Int32) else (if (p1 &&& (2 : Int32)) = (0 : Int32) then (2 : Int32) else (4 : Int32))) = (2 : Int32)
      · (try simp only [if_pos hc478] at kt)
        refine XS.icmpNo X184.here hx rfl (hb hby at_478) rfl (teq hc478).2 ?_
        show Steps p.tables e below (T184.setTop (mkF m 481 #[.val (.int p1), .val (.int p2), .val (.int p3), .val (.ref b2), .val (.int v95_0), .val (.int (1 : Int32)), .val (.int (2 : Int32)), .val (.int (2 : Int32)), .val (.int (2 : Int32)), .val (.int (-1 : Int32)), .val (.int (if (p1 &&& (2 : Int32)) = (0 : Int32) then (2 : Int32) else (4 : Int32))), .val (.int (2 : Int32)), .val (.ref b134), .unset, .unset, .unset] [])) _
        refine XS.iconst X184.here hx rfl (hb hby at_481) ?_
        show Steps p.tables e below (T184.setTop (mkF m 482 #[.val (.int p1), .val (.int p2), .val (.int p3), .val (.ref b2), .val (.int v95_0), .val (.int (1 : Int32)), .val (.int (2 : Int32)), .val (.int (2 : Int32)), .val (.int (2 : Int32)), .val (.int (-1 : Int32)), .val (.int (if (p1 &&& (2 : Int32)) = (0 : Int32) then (2 : Int32) else (4 : Int32))), .val (.int (2 : Int32)), .val (.ref b134), .unset, .unset, .unset] [(.int (1 : Int32))])) _
        refine XS.goto X184.here hx rfl (pc0 := 482) (pc' := 486) rfl (hb hby at_482) (by decide) (by decide) ?_
        exact kt
      · (try simp only [if_neg hc478] at kt)
        refine XS.icmpYes X184.here hx rfl (pc0 := 478) (pc' := 485) rfl (hb hby at_478) rfl (feq hc478).2 (by decide) (by decide) ?_
        show Steps p.tables e below (T184.setTop (mkF m 485 #[.val (.int p1), .val (.int p2), .val (.int p3), .val (.ref b2), .val (.int v95_0), .val (.int (1 : Int32)), .val (.int (2 : Int32)), .val (.int (2 : Int32)), .val (.int (2 : Int32)), .val (.int (-1 : Int32)), .val (.int (if (p1 &&& (2 : Int32)) = (0 : Int32) then (2 : Int32) else (4 : Int32))), .val (.int (2 : Int32)), .val (.ref b134), .unset, .unset, .unset] [])) _
        refine XS.iconst X184.here hx rfl (hb hby at_485) ?_
        exact kt
    have hfin : v186_0 = 1 := by
      rw [hv186_0]
      first | (rw [if_pos (if_pos (by decide))]; done) | (rw [if_pos (if_neg (own_pn p2))]; done)
    obtain ⟨fs, hr, hrun, hended, hW, hsame⟩ := X184.leave (v := some (.int (1 : Int32))) (fun h => by rw [Bd.returns] at h; cases h)
    refine ⟨_, _, pre186 _ ?_, hrun, hended, _, _, rfl, ?_, ⟨_, rfl⟩, hW, hsame.mono (by decide) (by decide)⟩
    · show Steps p.tables e below (T184.setTop (mkF m 486 #[.val (.int p1), .val (.int p2), .val (.int p3), .val (.ref b2), .val (.int v95_0), .val (.int (1 : Int32)), .val (.int (2 : Int32)), .val (.int (2 : Int32)), .val (.int (2 : Int32)), .val (.int (-1 : Int32)), .val (.int (if (p1 &&& (2 : Int32)) = (0 : Int32) then (2 : Int32) else (4 : Int32))), .val (.int (2 : Int32)), .val (.ref b134), .unset, .unset, .unset] [(.int v186_0)])) _
      rw [hfin]
      exact retN X184 hx (t := .boolean) Bd.returns (by simp) (hb hby at_486) hr
    · show Q0 n0 _ T184.heap _
      rw [e184]
      exact ⟨rfl, N184⟩
  · have pre187 : ∀ t, Steps p.tables e below (T90.setTop (mkF m 150 #[.val (.int p1), .val (.int p2), .val (.int p3), .val (.ref b2), .val (.int v95_0), .val (.int (1 : Int32)), .unset, .unset, .unset, .unset, .unset, .unset, .unset, .unset, .unset, .unset] [])) t → Steps p.tables e below (s₁.setTop (entryFrame m #[(.int p1), (.int p2), (.int p3)] maxLocals)) t := by
      intro t kt
      refine pre96 t ?_
      show Steps p.tables e below (T90.setTop (mkF m 147 #[.val (.int p1), .val (.int p2), .val (.int p3), .val (.ref b2), .val (.int v95_0), .val (.int (1 : Int32)), .unset, .unset, .unset, .unset, .unset, .unset, .unset, .unset, .unset, .unset] [(.int v95_0)])) _
      refine XS.ifNo X90.here hx rfl (hb hby at_147) rfl ((if0 _ _).trans (feq hc147).1) ?_
      exact kt
    have pre188 : ∀ t, Steps p.tables e below (T90.setTop (mkF m 157 #[.val (.int p1), .val (.int p2), .val (.int p3), .val (.ref b2), .val (.int v95_0), .val (.int (1 : Int32)), .unset, .unset, .unset, .unset, .unset, .unset, .val (.int ((p3 >>> ((2 : Int32) &&& 31)) &&& (3 : Int32))), .unset, .unset, .unset] [])) t → Steps p.tables e below (s₁.setTop (entryFrame m #[(.int p1), (.int p2), (.int p3)] maxLocals)) t := by
      intro t kt
      refine pre187 t ?_
      show Steps p.tables e below (T90.setTop (mkF m 150 #[.val (.int p1), .val (.int p2), .val (.int p3), .val (.ref b2), .val (.int v95_0), .val (.int (1 : Int32)), .unset, .unset, .unset, .unset, .unset, .unset, .unset, .unset, .unset, .unset] [])) _
      refine XS.iloadN X90.here hx rfl (hb hby at_150) rfl ?_
      show Steps p.tables e below (T90.setTop (mkF m 151 #[.val (.int p1), .val (.int p2), .val (.int p3), .val (.ref b2), .val (.int v95_0), .val (.int (1 : Int32)), .unset, .unset, .unset, .unset, .unset, .unset, .unset, .unset, .unset, .unset] [(.int p3)])) _
      refine XS.iconst X90.here hx rfl (hb hby at_151) ?_
      show Steps p.tables e below (T90.setTop (mkF m 152 #[.val (.int p1), .val (.int p2), .val (.int p3), .val (.ref b2), .val (.int v95_0), .val (.int (1 : Int32)), .unset, .unset, .unset, .unset, .unset, .unset, .unset, .unset, .unset, .unset] [(.int (2 : Int32)), (.int p3)])) _
      refine XS.ishr X90.here hx rfl (hb hby at_152) rfl ?_
      show Steps p.tables e below (T90.setTop (mkF m 153 #[.val (.int p1), .val (.int p2), .val (.int p3), .val (.ref b2), .val (.int v95_0), .val (.int (1 : Int32)), .unset, .unset, .unset, .unset, .unset, .unset, .unset, .unset, .unset, .unset] [(.int (p3 >>> ((2 : Int32) &&& 31)))])) _
      refine XS.iconst X90.here hx rfl (hb hby at_153) ?_
      show Steps p.tables e below (T90.setTop (mkF m 154 #[.val (.int p1), .val (.int p2), .val (.int p3), .val (.ref b2), .val (.int v95_0), .val (.int (1 : Int32)), .unset, .unset, .unset, .unset, .unset, .unset, .unset, .unset, .unset, .unset] [(.int (3 : Int32)), (.int (p3 >>> ((2 : Int32) &&& 31)))])) _
      refine XS.iand X90.here hx rfl (hb hby at_154) rfl ?_
      show Steps p.tables e below (T90.setTop (mkF m 155 #[.val (.int p1), .val (.int p2), .val (.int p3), .val (.ref b2), .val (.int v95_0), .val (.int (1 : Int32)), .unset, .unset, .unset, .unset, .unset, .unset, .unset, .unset, .unset, .unset] [(.int ((p3 >>> ((2 : Int32) &&& 31)) &&& (3 : Int32)))])) _
      refine XS.istore X90.here hx rfl (hb hby at_155) rfl (l' := #[.val (.int p1), .val (.int p2), .val (.int p3), .val (.ref b2), .val (.int v95_0), .val (.int (1 : Int32)), .unset, .unset, .unset, .unset, .unset, .unset, .val (.int ((p3 >>> ((2 : Int32) &&& 31)) &&& (3 : Int32))), .unset, .unset, .unset]) rfl ?_
      exact kt
    obtain ⟨hh, ehh⟩ : ∃ z, z = ((p3 >>> ((2 : Int32) &&& 31)) &&& (3 : Int32)) := ⟨_, rfl⟩
    rw [← ehh] at pre188
    have bhh : 0 ≤ hh.toInt ∧ hh.toInt ≤ 3 := ehh ▸ own_m3 _
    have pre189 : ∀ t, Steps p.tables e below (T90.setTop (mkF m 159 #[.val (.int p1), .val (.int p2), .val (.int p3), .val (.ref b2), .val (.int v95_0), .val (.int (1 : Int32)), .unset, .unset, .unset, .unset, .unset, .unset, .val (.int hh), .unset, .unset, .unset] [(.int hh)])) t → Steps p.tables e below (s₁.setTop (entryFrame m #[(.int p1), (.int p2), (.int p3)] maxLocals)) t := by
      intro t kt
      refine pre188 t ?_
      show Steps p.tables e below (T90.setTop (mkF m 157 #[.val (.int p1), .val (.int p2), .val (.int p3), .val (.ref b2), .val (.int v95_0), .val (.int (1 : Int32)), .unset, .unset, .unset, .unset, .unset, .unset, .val (.int hh), .unset, .unset, .unset] [])) _
      refine XS.iload X90.here hx rfl (hb hby at_157) rfl ?_
      exact kt
    obtain ⟨v190_0, hv190_0, pre190⟩ : ∃ (v190_0 : Int32), v190_0 = (if hh = (0 : Int32) then (0 : Int32) else ((p3 &&& (3 : Int32)) % (3 : Int32))) ∧ ∀ t, Steps p.tables e below (T90.setTop (mkF m 171 #[.val (.int p1), .val (.int p2), .val (.int p3), .val (.ref b2), .val (.int v95_0), .val (.int (1 : Int32)), .unset, .unset, .unset, .unset, .unset, .unset, .val (.int hh), .unset, .unset, .unset] [(.int v190_0)])) t → Steps p.tables e below (s₁.setTop (entryFrame m #[(.int p1), (.int p2), (.int p3)] maxLocals)) t := by
      refine ⟨_, rfl, ?_⟩
      intro t kt
      refine pre189 t ?_
      show Steps p.tables e below (T90.setTop (mkF m 159 #[.val (.int p1), .val (.int p2), .val (.int p3), .val (.ref b2), .val (.int v95_0), .val (.int (1 : Int32)), .unset, .unset, .unset, .unset, .unset, .unset, .val (.int hh), .unset, .unset, .unset] [(.int hh)])) _
      by_cases hc159 : hh = (0 : Int32)
      · (try simp only [if_pos hc159] at kt)
        refine XS.ifNo X90.here hx rfl (hb hby at_159) rfl ((if0 _ _).trans (teq hc159).2) ?_
        show Steps p.tables e below (T90.setTop (mkF m 162 #[.val (.int p1), .val (.int p2), .val (.int p3), .val (.ref b2), .val (.int v95_0), .val (.int (1 : Int32)), .unset, .unset, .unset, .unset, .unset, .unset, .val (.int hh), .unset, .unset, .unset] [])) _
        refine XS.iconst X90.here hx rfl (hb hby at_162) ?_
        show Steps p.tables e below (T90.setTop (mkF m 163 #[.val (.int p1), .val (.int p2), .val (.int p3), .val (.ref b2), .val (.int v95_0), .val (.int (1 : Int32)), .unset, .unset, .unset, .unset, .unset, .unset, .val (.int hh), .unset, .unset, .unset] [(.int (0 : Int32))])) _
        refine XS.goto X90.here hx rfl (pc0 := 163) (pc' := 171) rfl (hb hby at_163) (by decide) (by decide) ?_
        exact kt
      · (try simp only [if_neg hc159] at kt)
        refine XS.ifYes X90.here hx rfl (pc0 := 159) (pc' := 166) rfl (hb hby at_159) rfl ((if0 _ _).trans (feq hc159).2) (by decide) (by decide) ?_
        show Steps p.tables e below (T90.setTop (mkF m 166 #[.val (.int p1), .val (.int p2), .val (.int p3), .val (.ref b2), .val (.int v95_0), .val (.int (1 : Int32)), .unset, .unset, .unset, .unset, .unset, .unset, .val (.int hh), .unset, .unset, .unset] [])) _
        refine XS.iloadN X90.here hx rfl (hb hby at_166) rfl ?_
        show Steps p.tables e below (T90.setTop (mkF m 167 #[.val (.int p1), .val (.int p2), .val (.int p3), .val (.ref b2), .val (.int v95_0), .val (.int (1 : Int32)), .unset, .unset, .unset, .unset, .unset, .unset, .val (.int hh), .unset, .unset, .unset] [(.int p3)])) _
        refine XS.iconst X90.here hx rfl (hb hby at_167) ?_
        show Steps p.tables e below (T90.setTop (mkF m 168 #[.val (.int p1), .val (.int p2), .val (.int p3), .val (.ref b2), .val (.int v95_0), .val (.int (1 : Int32)), .unset, .unset, .unset, .unset, .unset, .unset, .val (.int hh), .unset, .unset, .unset] [(.int (3 : Int32)), (.int p3)])) _
        refine XS.iand X90.here hx rfl (hb hby at_168) rfl ?_
        show Steps p.tables e below (T90.setTop (mkF m 169 #[.val (.int p1), .val (.int p2), .val (.int p3), .val (.ref b2), .val (.int v95_0), .val (.int (1 : Int32)), .unset, .unset, .unset, .unset, .unset, .unset, .val (.int hh), .unset, .unset, .unset] [(.int (p3 &&& (3 : Int32)))])) _
        refine XS.iconst X90.here hx rfl (hb hby at_169) ?_
        show Steps p.tables e below (T90.setTop (mkF m 170 #[.val (.int p1), .val (.int p2), .val (.int p3), .val (.ref b2), .val (.int v95_0), .val (.int (1 : Int32)), .unset, .unset, .unset, .unset, .unset, .unset, .val (.int hh), .unset, .unset, .unset] [(.int (3 : Int32)), (.int (p3 &&& (3 : Int32)))])) _
        refine iremM X90 hx rfl (hb hby at_170) rfl (by decide) ?_
        exact kt
    have pre191 : ∀ t, Steps p.tables e below (T90.setTop (mkF m 175 #[.val (.int p1), .val (.int p2), .val (.int p3), .val (.ref b2), .val (.int v95_0), .val (.int (1 : Int32)), .unset, .unset, .unset, .unset, .unset, .unset, .val (.int hh), .val (.int v190_0), .unset, .unset] [(.int hh)])) t → Steps p.tables e below (s₁.setTop (entryFrame m #[(.int p1), (.int p2), (.int p3)] maxLocals)) t := by
      intro t kt
      refine pre190 t ?_
      show Steps p.tables e below (T90.setTop (mkF m 171 #[.val (.int p1), .val (.int p2), .val (.int p3), .val (.ref b2), .val (.int v95_0), .val (.int (1 : Int32)), .unset, .unset, .unset, .unset, .unset, .unset, .val (.int hh), .unset, .unset, .unset] [(.int v190_0)])) _
      refine XS.istore X90.here hx rfl (hb hby at_171) rfl (l' := #[.val (.int p1), .val (.int p2), .val (.int p3), .val (.ref b2), .val (.int v95_0), .val (.int (1 : Int32)), .unset, .unset, .unset, .unset, .unset, .unset, .val (.int hh), .val (.int v190_0), .unset, .unset]) rfl ?_
      show Steps p.tables e below (T90.setTop (mkF m 173 #[.val (.int p1), .val (.int p2), .val (.int p3), .val (.ref b2), .val (.int v95_0), .val (.int (1 : Int32)), .unset, .unset, .unset, .unset, .unset, .unset, .val (.int hh), .val (.int v190_0), .unset, .unset] [])) _
      refine XS.iload X90.here hx rfl (hb hby at_173) rfl ?_
      exact kt
    obtain ⟨v192_0, hv192_0, pre192⟩ : ∃ (v192_0 : Int32), v192_0 = (if (0 : Int32) < hh then (if (p1 &&& (4 : Int32)) = (0 : Int32) then (0 : Int32) else (1 : Int32)) else (0 : Int32)) ∧ ∀ t, Steps p.tables e below (T90.setTop (mkF m 189 #[.val (.int p1), .val (.int p2), .val (.int p3), .val (.ref b2), .val (.int v95_0), .val (.int (1 : Int32)), .unset, .unset, .unset, .unset, .unset, .unset, .val (.int hh), .val (.int v190_0), .unset, .unset] [(.int v192_0)])) t → Steps p.tables e below (s₁.setTop (entryFrame m #[(.int p1), (.int p2), (.int p3)] maxLocals)) t := by
      refine ⟨_, rfl, ?_⟩
      intro t kt
      refine pre191 t ?_
      show Steps p.tables e below (T90.setTop (mkF m 175 #[.val (.int p1), .val (.int p2), .val (.int p3), .val (.ref b2), .val (.int v95_0), .val (.int (1 : Int32)), .unset, .unset, .unset, .unset, .unset, .unset, .val (.int hh), .val (.int v190_0), .unset, .unset] [(.int hh)])) _
      by_cases hc175 : (0 : Int32) < hh
      · (try simp only [if_pos hc175] at kt)
        refine XS.ifNo X90.here hx rfl (hb hby at_175) rfl ((if0 _ _).trans (tlt hc175).2.2.2) ?_
        show Steps p.tables e below (T90.setTop (mkF m 178 #[.val (.int p1), .val (.int p2), .val (.int p3), .val (.ref b2), .val (.int v95_0), .val (.int (1 : Int32)), .unset, .unset, .unset, .unset, .unset, .unset, .val (.int hh), .val (.int v190_0), .unset, .unset] [])) _
        refine XS.iloadN X90.here hx rfl (hb hby at_178) rfl ?_
        show Steps p.tables e below (T90.setTop (mkF m 179 #[.val (.int p1), .val (.int p2), .val (.int p3), .val (.ref b2), .val (.int v95_0), .val (.int (1 : Int32)), .unset, .unset, .unset, .unset, .unset, .unset, .val (.int hh), .val (.int v190_0), .unset, .unset] [(.int p1)])) _
        refine XS.iconst X90.here hx rfl (hb hby at_179) ?_
        show Steps p.tables e below (T90.setTop (mkF m 180 #[.val (.int p1), .val (.int p2), .val (.int p3), .val (.ref b2), .val (.int v95_0), .val (.int (1 : Int32)), .unset, .unset, .unset, .unset, .unset, .unset, .val (.int hh), .val (.int v190_0), .unset, .unset] [(.int (4 : Int32)), (.int p1)])) _
        refine XS.iand X90.here hx rfl (hb hby at_180) rfl ?_
        show Steps p.tables e below (T90.setTop (mkF m 181 #[.val (.int p1), .val (.int p2), .val (.int p3), .val (.ref b2), .val (.int v95_0), .val (.int (1 : Int32)), .unset, .unset, .unset, .unset, .unset, .unset, .val (.int hh), .val (.int v190_0), .unset, .unset] [(.int (p1 &&& (4 : Int32)))])) _
        by_cases hc181 : (p1 &&& (4 : Int32)) = (0 : Int32)
        · (try simp only [if_pos hc181] at kt)
          refine XS.ifYes X90.here hx rfl (pc0 := 181) (pc' := 188) rfl (hb hby at_181) rfl ((if0 _ _).trans (teq hc181).1) (by decide) (by decide) ?_
          show Steps p.tables e below (T90.setTop (mkF m 188 #[.val (.int p1), .val (.int p2), .val (.int p3), .val (.ref b2), .val (.int v95_0), .val (.int (1 : Int32)), .unset, .unset, .unset, .unset, .unset, .unset, .val (.int hh), .val (.int v190_0), .unset, .unset] [])) _
          refine XS.iconst X90.here hx rfl (hb hby at_188) ?_
          exact kt
        · (try simp only [if_neg hc181] at kt)
          refine XS.ifNo X90.here hx rfl (hb hby at_181) rfl ((if0 _ _).trans (feq hc181).1) ?_
          show Steps p.tables e below (T90.setTop (mkF m 184 #[.val (.int p1), .val (.int p2), .val (.int p3), .val (.ref b2), .val (.int v95_0), .val (.int (1 : Int32)), .unset, .unset, .unset, .unset, .unset, .unset, .val (.int hh), .val (.int v190_0), .unset, .unset] [])) _
          refine XS.iconst X90.here hx rfl (hb hby at_184) ?_
          show Steps p.tables e below (T90.setTop (mkF m 185 #[.val (.int p1), .val (.int p2), .val (.int p3), .val (.ref b2), .val (.int v95_0), .val (.int (1 : Int32)), .unset, .unset, .unset, .unset, .unset, .unset, .val (.int hh), .val (.int v190_0), .unset, .unset] [(.int (1 : Int32))])) _
          refine XS.goto X90.here hx rfl (pc0 := 185) (pc' := 189) rfl (hb hby at_185) (by decide) (by decide) ?_
          exact kt
      · (try simp only [if_neg hc175] at kt)
        refine XS.ifYes X90.here hx rfl (pc0 := 175) (pc' := 188) rfl (hb hby at_175) rfl ((if0 _ _).trans (flt hc175).2.2.2) (by decide) (by decide) ?_
        show Steps p.tables e below (T90.setTop (mkF m 188 #[.val (.int p1), .val (.int p2), .val (.int p3), .val (.ref b2), .val (.int v95_0), .val (.int (1 : Int32)), .unset, .unset, .unset, .unset, .unset, .unset, .val (.int hh), .val (.int v190_0), .unset, .unset] [])) _
        refine XS.iconst X90.here hx rfl (hb hby at_188) ?_
        exact kt
    have pre193 : ∀ t, Steps p.tables e below (T90.setTop (mkF m 191 #[.val (.int p1), .val (.int p2), .val (.int p3), .val (.ref b2), .val (.int v95_0), .val (.int (1 : Int32)), .unset, .unset, .unset, .unset, .unset, .unset, .val (.int hh), .val (.int v190_0), .val (.int v192_0), .unset] [])) t → Steps p.tables e below (s₁.setTop (entryFrame m #[(.int p1), (.int p2), (.int p3)] maxLocals)) t := by
      intro t kt
      refine pre192 t ?_
      show Steps p.tables e below (T90.setTop (mkF m 189 #[.val (.int p1), .val (.int p2), .val (.int p3), .val (.ref b2), .val (.int v95_0), .val (.int (1 : Int32)), .unset, .unset, .unset, .unset, .unset, .unset, .val (.int hh), .val (.int v190_0), .unset, .unset] [(.int v192_0)])) _
      refine XS.istore X90.here hx rfl (hb hby at_189) rfl (l' := #[.val (.int p1), .val (.int p2), .val (.int p3), .val (.ref b2), .val (.int v95_0), .val (.int (1 : Int32)), .unset, .unset, .unset, .unset, .unset, .unset, .val (.int hh), .val (.int v190_0), .val (.int v192_0), .unset]) rfl ?_
      exact kt
    have bu := own_u hv190_0
    have pre194 : ∀ t, Steps p.tables e below (T90.setTop (mkF m 195 #[.val (.int p1), .val (.int p2), .val (.int p3), .val (.ref b2), .val (.int v95_0), .val (.int (1 : Int32)), .unset, .unset, .unset, .unset, .unset, .unset, .val (.int hh), .val (.int v190_0), .val (.int v192_0), .unset] [(.int (47 : Int32)), (.int (2 : Int32)), (.ref b2)])) t → Steps p.tables e below (s₁.setTop (entryFrame m #[(.int p1), (.int p2), (.int p3)] maxLocals)) t := by
      intro t kt
      refine pre193 t ?_
      show Steps p.tables e below (T90.setTop (mkF m 191 #[.val (.int p1), .val (.int p2), .val (.int p3), .val (.ref b2), .val (.int v95_0), .val (.int (1 : Int32)), .unset, .unset, .unset, .unset, .unset, .unset, .val (.int hh), .val (.int v190_0), .val (.int v192_0), .unset] [])) _
      refine XS.aloadN X90.here hx rfl (hb hby at_191) rfl rfl ?_
      show Steps p.tables e below (T90.setTop (mkF m 192 #[.val (.int p1), .val (.int p2), .val (.int p3), .val (.ref b2), .val (.int v95_0), .val (.int (1 : Int32)), .unset, .unset, .unset, .unset, .unset, .unset, .val (.int hh), .val (.int v190_0), .val (.int v192_0), .unset] [(.ref b2)])) _
      refine XS.iconst X90.here hx rfl (hb hby at_192) ?_
      show Steps p.tables e below (T90.setTop (mkF m 193 #[.val (.int p1), .val (.int p2), .val (.int p3), .val (.ref b2), .val (.int v95_0), .val (.int (1 : Int32)), .unset, .unset, .unset, .unset, .unset, .unset, .val (.int hh), .val (.int v190_0), .val (.int v192_0), .unset] [(.int (2 : Int32)), (.ref b2)])) _
      refine XS.bipush X90.here hx rfl (hb hby at_193) ?_
      exact kt
    obtain ⟨cl195, Ar195, q195, S195, M195, H195, G195⟩ := (id V0_90)
    have ok196 : own_ok (((vs0.set ((0 : Int32)).toNatClampNeg (.int (nar .char (115 : Int32)))).set ((1 : Int32)).toNatClampNeg (.int (nar .char (58 : Int32)))).set ((2 : Int32)).toNatClampNeg (.int (nar .char (47 : Int32)))) := own_okset ok91 _ (by decide)
    have hin195 : ¬ ((2 : Int32) < 0 ∨ cl195.slots.size ≤ ((2 : Int32)).toNatClampNeg) := inb_of S195 (own_in (by decide))
    obtain ⟨T195, h195, X195, e195, W195, st195⟩ := stC X90 hx hZ e90 Ar195 (j := (2 : Int32)) hin195 (g := (mkF m 195 #[.val (.int p1), .val (.int p2), .val (.int p3), .val (.ref b2), .val (.int v95_0), .val (.int (1 : Int32)), .unset, .unset, .unset, .unset, .unset, .unset, .val (.int hh), .val (.int v190_0), .val (.int v192_0), .unset] [(.int (47 : Int32)), (.int (2 : Int32)), (.ref b2)])) rfl rfl (hb hby at_195)
    have V0_195 := Arv.set Ar195 q195 S195 M195 H195 G195 (fits_nar_char _) W195 ((2 : Int32)).toNatClampNeg rfl (own_oklt ok91 (own_in (by decide)))
    have N195 := Fr.snoc X195 N90 g_b2
    have K195 : Keep h0 h195 [] := K90.wr W195 (Or.inr sz_b2)
    have Z195 : n0 ≤ h195.size := Nat.le_trans Z90 (Keep.of_wr W195).1
    have SCS_197 := SCS_92.wr W195
    have pre195 : ∀ t, Steps p.tables e below (T195.setTop (mkF m 196 #[.val (.int p1), .val (.int p2), .val (.int p3), .val (.ref b2), .val (.int v95_0), .val (.int (1 : Int32)), .unset, .unset, .unset, .unset, .unset, .unset, .val (.int hh), .val (.int v190_0), .val (.int v192_0), .unset] [])) t → Steps p.tables e below (s₁.setTop (entryFrame m #[(.int p1), (.int p2), (.int p3)] maxLocals)) t := fun t kt => pre194 t (st195 _ kt)
    have pre199 : ∀ t, Steps p.tables e below (T195.setTop (mkF m 200 #[.val (.int p1), .val (.int p2), .val (.int p3), .val (.ref b2), .val (.int v95_0), .val (.int (1 : Int32)), .unset, .unset, .unset, .unset, .unset, .unset, .val (.int hh), .val (.int v190_0), .val (.int v192_0), .unset] [(.int (47 : Int32)), (.int (3 : Int32)), (.ref b2)])) t → Steps p.tables e below (s₁.setTop (entryFrame m #[(.int p1), (.int p2), (.int p3)] maxLocals)) t := by
      intro t kt
      refine pre195 t ?_
      show Steps p.tables e below (T195.setTop (mkF m 196 #[.val (.int p1), .val (.int p2), .val (.int p3), .val (.ref b2), .val (.int v95_0), .val (.int (1 : Int32)), .unset, .unset, .unset, .unset, .unset, .unset, .val (.int hh), .val (.int v190_0), .val (.int v192_0), .unset] [])) _
      refine XS.aloadN X195.here hx rfl (hb hby at_196) rfl rfl ?_
      show Steps p.tables e below (T195.setTop (mkF m 197 #[.val (.int p1), .val (.int p2), .val (.int p3), .val (.ref b2), .val (.int v95_0), .val (.int (1 : Int32)), .unset, .unset, .unset, .unset, .unset, .unset, .val (.int hh), .val (.int v190_0), .val (.int v192_0), .unset] [(.ref b2)])) _
      refine XS.iconst X195.here hx rfl (hb hby at_197) ?_
      show Steps p.tables e below (T195.setTop (mkF m 198 #[.val (.int p1), .val (.int p2), .val (.int p3), .val (.ref b2), .val (.int v95_0), .val (.int (1 : Int32)), .unset, .unset, .unset, .unset, .unset, .unset, .val (.int hh), .val (.int v190_0), .val (.int v192_0), .unset] [(.int (3 : Int32)), (.ref b2)])) _
      refine XS.bipush X195.here hx rfl (hb hby at_198) ?_
      exact kt
    obtain ⟨cl200, Ar200, q200, S200, M200, H200, G200⟩ := (id V0_195)
    have ok201 : own_ok ((((vs0.set ((0 : Int32)).toNatClampNeg (.int (nar .char (115 : Int32)))).set ((1 : Int32)).toNatClampNeg (.int (nar .char (58 : Int32)))).set ((2 : Int32)).toNatClampNeg (.int (nar .char (47 : Int32)))).set ((3 : Int32)).toNatClampNeg (.int (nar .char (47 : Int32)))) := own_okset ok196 _ (by decide)
    have hin200 : ¬ ((3 : Int32) < 0 ∨ cl200.slots.size ≤ ((3 : Int32)).toNatClampNeg) := inb_of S200 (own_in (by decide))
    obtain ⟨T200, h200, X200, e200, W200, st200⟩ := stC X195 hx hZ e195 Ar200 (j := (3 : Int32)) hin200 (g := (mkF m 200 #[.val (.int p1), .val (.int p2), .val (.int p3), .val (.ref b2), .val (.int v95_0), .val (.int (1 : Int32)), .unset, .unset, .unset, .unset, .unset, .unset, .val (.int hh), .val (.int v190_0), .val (.int v192_0), .unset] [(.int (47 : Int32)), (.int (3 : Int32)), (.ref b2)])) rfl rfl (hb hby at_200)
    have V0_200 := Arv.set Ar200 q200 S200 M200 H200 G200 (fits_nar_char _) W200 ((3 : Int32)).toNatClampNeg rfl (own_oklt ok196 (own_in (by decide)))
    have N200 := Fr.snoc X200 N195 g_b2
    have K200 : Keep h0 h200 [] := K195.wr W200 (Or.inr sz_b2)
    have Z200 : n0 ≤ h200.size := Nat.le_trans Z195 (Keep.of_wr W200).1
    have SCS_202 := SCS_197.wr W200
    have pre200 : ∀ t, Steps p.tables e below (T200.setTop (mkF m 201 #[.val (.int p1), .val (.int p2), .val (.int p3), .val (.ref b2), .val (.int v95_0), .val (.int (1 : Int32)), .unset, .unset, .unset, .unset, .unset, .unset, .val (.int hh), .val (.int v190_0), .val (.int v192_0), .unset] [])) t → Steps p.tables e below (s₁.setTop (entryFrame m #[(.int p1), (.int p2), (.int p3)] maxLocals)) t := fun t kt => pre199 t (st200 _ kt)
    have pre204 : ∀ t, Steps p.tables e below (T200.setTop (mkF m 203 #[.val (.int p1), .val (.int p2), .val (.int p3), .val (.ref b2), .val (.int v95_0), .val (.int (1 : Int32)), .unset, .unset, .unset, .unset, .unset, .unset, .val (.int hh), .val (.int v190_0), .val (.int v192_0), .unset] [(.int v190_0)])) t → Steps p.tables e below (s₁.setTop (entryFrame m #[(.int p1), (.int p2), (.int p3)] maxLocals)) t := by
      intro t kt
      refine pre200 t ?_
      show Steps p.tables e below (T200.setTop (mkF m 201 #[.val (.int p1), .val (.int p2), .val (.int p3), .val (.ref b2), .val (.int v95_0), .val (.int (1 : Int32)), .unset, .unset, .unset, .unset, .unset, .unset, .val (.int hh), .val (.int v190_0), .val (.int v192_0), .unset] [])) _
      refine XS.iload X200.here hx rfl (hb hby at_201) rfl ?_
      exact kt
    obtain ⟨T205, h205, L205, vs205_0, X205, e205, N205, K205, Z205, SCS_205, V0_205, okvs205_0, pre205⟩ : ∃ (T' : State) (h' : Heap) (L' : List Loc) (vs205_0 : List Value), Stand p l e room_1 s m #[(.int p1), (.int p2), (.int p3)] below meth c T' L' 1 20 ∧ T'.heap = h' ∧ Fr n0 L' ∧ Keep h0 h' [] ∧ n0 ≤ h'.size ∧ Sta Z h' "java/lang/String" "COMPACT_STRINGS" "Z" (.int cz) ∧ Arv Z h' b2 k2 .char (20 : Int32) vs205_0 (.int (0 : Int32)) ∧ own_ok vs205_0 ∧ ∀ t, Steps p.tables e below (T'.setTop (mkF m 235 #[.val (.int p1), .val (.int p2), .val (.int p3), .val (.ref b2), .val (.int v95_0), .val (.int (1 : Int32)), .val (.int (if (0 : Int32) < v190_0 then ((4 : Int32) + v190_0) else (4 : Int32))), .val (.int (if (0 : Int32) < v190_0 then ((5 : Int32) + v190_0) else (4 : Int32))), .unset, .unset, .unset, .unset, .val (.int hh), .val (.int v190_0), .val (.int v192_0), .unset] [])) t → Steps p.tables e below (s₁.setTop (entryFrame m #[(.int p1), (.int p2), (.int p3)] maxLocals)) t := by
      by_cases hc203 : (0 : Int32) < v190_0
      · skip
        have pre206 : ∀ t, Steps p.tables e below (T200.setTop (mkF m 206 #[.val (.int p1), .val (.int p2), .val (.int p3), .val (.ref b2), .val (.int v95_0), .val (.int (1 : Int32)), .unset, .unset, .unset, .unset, .unset, .unset, .val (.int hh), .val (.int v190_0), .val (.int v192_0), .unset] [])) t → Steps p.tables e below (s₁.setTop (entryFrame m #[(.int p1), (.int p2), (.int p3)] maxLocals)) t := by
          intro t kt
          refine pre204 t ?_
          show Steps p.tables e below (T200.setTop (mkF m 203 #[.val (.int p1), .val (.int p2), .val (.int p3), .val (.ref b2), .val (.int v95_0), .val (.int (1 : Int32)), .unset, .unset, .unset, .unset, .unset, .unset, .val (.int hh), .val (.int v190_0), .val (.int v192_0), .unset] [(.int v190_0)])) _
          refine XS.ifNo X200.here hx rfl (hb hby at_203) rfl ((if0 _ _).trans (tlt hc203).2.2.2) ?_
          exact kt
        have pre207 : ∀ t, Steps p.tables e below (T200.setTop (mkF m 213 #[.val (.int p1), .val (.int p2), .val (.int p3), .val (.ref b2), .val (.int v95_0), .val (.int (1 : Int32)), .unset, .unset, .unset, .unset, .unset, .unset, .val (.int hh), .val (.int v190_0), .val (.int v192_0), .unset] [(.int (64 : Int32)), (.int ((4 : Int32) + v190_0)), (.ref b2)])) t → Steps p.tables e below (s₁.setTop (entryFrame m #[(.int p1), (.int p2), (.int p3)] maxLocals)) t := by
          intro t kt
          refine pre206 t ?_
          show Steps p.tables e below (T200.setTop (mkF m 206 #[.val (.int p1), .val (.int p2), .val (.int p3), .val (.ref b2), .val (.int v95_0), .val (.int (1 : Int32)), .unset, .unset, .unset, .unset, .unset, .unset, .val (.int hh), .val (.int v190_0), .val (.int v192_0), .unset] [])) _
          refine XS.aloadN X200.here hx rfl (hb hby at_206) rfl rfl ?_
          show Steps p.tables e below (T200.setTop (mkF m 207 #[.val (.int p1), .val (.int p2), .val (.int p3), .val (.ref b2), .val (.int v95_0), .val (.int (1 : Int32)), .unset, .unset, .unset, .unset, .unset, .unset, .val (.int hh), .val (.int v190_0), .val (.int v192_0), .unset] [(.ref b2)])) _
          refine XS.iconst X200.here hx rfl (hb hby at_207) ?_
          show Steps p.tables e below (T200.setTop (mkF m 208 #[.val (.int p1), .val (.int p2), .val (.int p3), .val (.ref b2), .val (.int v95_0), .val (.int (1 : Int32)), .unset, .unset, .unset, .unset, .unset, .unset, .val (.int hh), .val (.int v190_0), .val (.int v192_0), .unset] [(.int (4 : Int32)), (.ref b2)])) _
          refine XS.iload X200.here hx rfl (hb hby at_208) rfl ?_
          show Steps p.tables e below (T200.setTop (mkF m 210 #[.val (.int p1), .val (.int p2), .val (.int p3), .val (.ref b2), .val (.int v95_0), .val (.int (1 : Int32)), .unset, .unset, .unset, .unset, .unset, .unset, .val (.int hh), .val (.int v190_0), .val (.int v192_0), .unset] [(.int v190_0), (.int (4 : Int32)), (.ref b2)])) _
          refine XS.iadd X200.here hx rfl (hb hby at_210) rfl ?_
          show Steps p.tables e below (T200.setTop (mkF m 211 #[.val (.int p1), .val (.int p2), .val (.int p3), .val (.ref b2), .val (.int v95_0), .val (.int (1 : Int32)), .unset, .unset, .unset, .unset, .unset, .unset, .val (.int hh), .val (.int v190_0), .val (.int v192_0), .unset] [(.int ((4 : Int32) + v190_0)), (.ref b2)])) _
          refine XS.bipush X200.here hx rfl (hb hby at_211) ?_
          exact kt
        obtain ⟨cl208, Ar208, q208, S208, M208, H208, G208⟩ := (id V0_200)
        have ok209 : own_ok (((((vs0.set ((0 : Int32)).toNatClampNeg (.int (nar .char (115 : Int32)))).set ((1 : Int32)).toNatClampNeg (.int (nar .char (58 : Int32)))).set ((2 : Int32)).toNatClampNeg (.int (nar .char (47 : Int32)))).set ((3 : Int32)).toNatClampNeg (.int (nar .char (47 : Int32)))).set (((4 : Int32) + v190_0)).toNatClampNeg (.int (nar .char (64 : Int32)))) := own_okset ok201 _ (by decide)
        have hin208 : ¬ (((4 : Int32) + v190_0) < 0 ∨ cl208.slots.size ≤ (((4 : Int32) + v190_0)).toNatClampNeg) := inb_of S208 (own_in (by rw [own_addI (show (4 : Int32).toInt = 4 by decide) rfl (by omega) (by omega) (by omega) (by omega)]; omega))
        obtain ⟨T208, h208, X208, e208, W208, st208⟩ := stC X200 hx hZ e200 Ar208 (j := ((4 : Int32) + v190_0)) hin208 (g := (mkF m 213 #[.val (.int p1), .val (.int p2), .val (.int p3), .val (.ref b2), .val (.int v95_0), .val (.int (1 : Int32)), .unset, .unset, .unset, .unset, .unset, .unset, .val (.int hh), .val (.int v190_0), .val (.int v192_0), .unset] [(.int (64 : Int32)), (.int ((4 : Int32) + v190_0)), (.ref b2)])) rfl rfl (hb hby at_213)
        have V0_208 := Arv.set Ar208 q208 S208 M208 H208 G208 (fits_nar_char _) W208 (((4 : Int32) + v190_0)).toNatClampNeg rfl (own_oklt ok201 (own_in (by rw [own_addI (show (4 : Int32).toInt = 4 by decide) rfl (by omega) (by omega) (by omega) (by omega)]; omega)))
        have N208 := Fr.snoc X208 N200 g_b2
        have K208 : Keep h0 h208 [] := K200.wr W208 (Or.inr sz_b2)
        have Z208 : n0 ≤ h208.size := Nat.le_trans Z200 (Keep.of_wr W208).1
        have SCS_210 := SCS_202.wr W208
        have pre208 : ∀ t, Steps p.tables e below (T208.setTop (mkF m 214 #[.val (.int p1), .val (.int p2), .val (.int p3), .val (.ref b2), .val (.int v95_0), .val (.int (1 : Int32)), .unset, .unset, .unset, .unset, .unset, .unset, .val (.int hh), .val (.int v190_0), .val (.int v192_0), .unset] [])) t → Steps p.tables e below (s₁.setTop (entryFrame m #[(.int p1), (.int p2), (.int p3)] maxLocals)) t := fun t kt => pre207 t (st208 _ kt)
        have pre212 : ∀ t, Steps p.tables e below (T208.setTop (mkF m 235 #[.val (.int p1), .val (.int p2), .val (.int p3), .val (.ref b2), .val (.int v95_0), .val (.int (1 : Int32)), .val (.int ((4 : Int32) + v190_0)), .val (.int ((5 : Int32) + v190_0)), .unset, .unset, .unset, .unset, .val (.int hh), .val (.int v190_0), .val (.int v192_0), .unset] [])) t → Steps p.tables e below (s₁.setTop (entryFrame m #[(.int p1), (.int p2), (.int p3)] maxLocals)) t := by
          intro t kt
          refine pre208 t ?_
          show Steps p.tables e below (T208.setTop (mkF m 214 #[.val (.int p1), .val (.int p2), .val (.int p3), .val (.ref b2), .val (.int v95_0), .val (.int (1 : Int32)), .unset, .unset, .unset, .unset, .unset, .unset, .val (.int hh), .val (.int v190_0), .val (.int v192_0), .unset] [])) _
          refine XS.iconst X208.here hx rfl (hb hby at_214) ?_
          show Steps p.tables e below (T208.setTop (mkF m 215 #[.val (.int p1), .val (.int p2), .val (.int p3), .val (.ref b2), .val (.int v95_0), .val (.int (1 : Int32)), .unset, .unset, .unset, .unset, .unset, .unset, .val (.int hh), .val (.int v190_0), .val (.int v192_0), .unset] [(.int (4 : Int32))])) _
          refine XS.iload X208.here hx rfl (hb hby at_215) rfl ?_
          show Steps p.tables e below (T208.setTop (mkF m 217 #[.val (.int p1), .val (.int p2), .val (.int p3), .val (.ref b2), .val (.int v95_0), .val (.int (1 : Int32)), .unset, .unset, .unset, .unset, .unset, .unset, .val (.int hh), .val (.int v190_0), .val (.int v192_0), .unset] [(.int v190_0), (.int (4 : Int32))])) _
          refine XS.iadd X208.here hx rfl (hb hby at_217) rfl ?_
          show Steps p.tables e below (T208.setTop (mkF m 218 #[.val (.int p1), .val (.int p2), .val (.int p3), .val (.ref b2), .val (.int v95_0), .val (.int (1 : Int32)), .unset, .unset, .unset, .unset, .unset, .unset, .val (.int hh), .val (.int v190_0), .val (.int v192_0), .unset] [(.int ((4 : Int32) + v190_0))])) _
          refine XS.istore X208.here hx rfl (hb hby at_218) rfl (l' := #[.val (.int p1), .val (.int p2), .val (.int p3), .val (.ref b2), .val (.int v95_0), .val (.int (1 : Int32)), .val (.int ((4 : Int32) + v190_0)), .unset, .unset, .unset, .unset, .unset, .val (.int hh), .val (.int v190_0), .val (.int v192_0), .unset]) rfl ?_
          show Steps p.tables e below (T208.setTop (mkF m 220 #[.val (.int p1), .val (.int p2), .val (.int p3), .val (.ref b2), .val (.int v95_0), .val (.int (1 : Int32)), .val (.int ((4 : Int32) + v190_0)), .unset, .unset, .unset, .unset, .unset, .val (.int hh), .val (.int v190_0), .val (.int v192_0), .unset] [])) _
          refine XS.iconst X208.here hx rfl (hb hby at_220) ?_
          show Steps p.tables e below (T208.setTop (mkF m 221 #[.val (.int p1), .val (.int p2), .val (.int p3), .val (.ref b2), .val (.int v95_0), .val (.int (1 : Int32)), .val (.int ((4 : Int32) + v190_0)), .unset, .unset, .unset, .unset, .unset, .val (.int hh), .val (.int v190_0), .val (.int v192_0), .unset] [(.int (5 : Int32))])) _
          refine XS.iload X208.here hx rfl (hb hby at_221) rfl ?_
          show Steps p.tables e below (T208.setTop (mkF m 223 #[.val (.int p1), .val (.int p2), .val (.int p3), .val (.ref b2), .val (.int v95_0), .val (.int (1 : Int32)), .val (.int ((4 : Int32) + v190_0)), .unset, .unset, .unset, .unset, .unset, .val (.int hh), .val (.int v190_0), .val (.int v192_0), .unset] [(.int v190_0), (.int (5 : Int32))])) _
          refine XS.iadd X208.here hx rfl (hb hby at_223) rfl ?_
          show Steps p.tables e below (T208.setTop (mkF m 224 #[.val (.int p1), .val (.int p2), .val (.int p3), .val (.ref b2), .val (.int v95_0), .val (.int (1 : Int32)), .val (.int ((4 : Int32) + v190_0)), .unset, .unset, .unset, .unset, .unset, .val (.int hh), .val (.int v190_0), .val (.int v192_0), .unset] [(.int ((5 : Int32) + v190_0))])) _
          refine XS.istore X208.here hx rfl (hb hby at_224) rfl (l' := #[.val (.int p1), .val (.int p2), .val (.int p3), .val (.ref b2), .val (.int v95_0), .val (.int (1 : Int32)), .val (.int ((4 : Int32) + v190_0)), .val (.int ((5 : Int32) + v190_0)), .unset, .unset, .unset, .unset, .val (.int hh), .val (.int v190_0), .val (.int v192_0), .unset]) rfl ?_
          show Steps p.tables e below (T208.setTop (mkF m 226 #[.val (.int p1), .val (.int p2), .val (.int p3), .val (.ref b2), .val (.int v95_0), .val (.int (1 : Int32)), .val (.int ((4 : Int32) + v190_0)), .val (.int ((5 : Int32) + v190_0)), .unset, .unset, .unset, .unset, .val (.int hh), .val (.int v190_0), .val (.int v192_0), .unset] [])) _
          refine XS.goto X208.here hx rfl (pc0 := 226) (pc' := 235) rfl (hb hby at_226) (by decide) (by decide) ?_
          exact kt
        exact ⟨_, _, _, _, X208, e208, N208, K208, Z208, SCS_210, V0_208, ok209, (by (try simp only [if_pos hc203]); exact pre212)⟩
      · skip
        have pre213 : ∀ t, Steps p.tables e below (T200.setTop (mkF m 229 #[.val (.int p1), .val (.int p2), .val (.int p3), .val (.ref b2), .val (.int v95_0), .val (.int (1 : Int32)), .unset, .unset, .unset, .unset, .unset, .unset, .val (.int hh), .val (.int v190_0), .val (.int v192_0), .unset] [])) t → Steps p.tables e below (s₁.setTop (entryFrame m #[(.int p1), (.int p2), (.int p3)] maxLocals)) t := by
          intro t kt
          refine pre204 t ?_
          show Steps p.tables e below (T200.setTop (mkF m 203 #[.val (.int p1), .val (.int p2), .val (.int p3), .val (.ref b2), .val (.int v95_0), .val (.int (1 : Int32)), .unset, .unset, .unset, .unset, .unset, .unset, .val (.int hh), .val (.int v190_0), .val (.int v192_0), .unset] [(.int v190_0)])) _
          refine XS.ifYes X200.here hx rfl (pc0 := 203) (pc' := 229) rfl (hb hby at_203) rfl ((if0 _ _).trans (flt hc203).2.2.2) (by decide) (by decide) ?_
          exact kt
        have pre214 : ∀ t, Steps p.tables e below (T200.setTop (mkF m 235 #[.val (.int p1), .val (.int p2), .val (.int p3), .val (.ref b2), .val (.int v95_0), .val (.int (1 : Int32)), .val (.int (4 : Int32)), .val (.int (4 : Int32)), .unset, .unset, .unset, .unset, .val (.int hh), .val (.int v190_0), .val (.int v192_0), .unset] [])) t → Steps p.tables e below (s₁.setTop (entryFrame m #[(.int p1), (.int p2), (.int p3)] maxLocals)) t := by
          intro t kt
          refine pre213 t ?_
          show Steps p.tables e below (T200.setTop (mkF m 229 #[.val (.int p1), .val (.int p2), .val (.int p3), .val (.ref b2), .val (.int v95_0), .val (.int (1 : Int32)), .unset, .unset, .unset, .unset, .unset, .unset, .val (.int hh), .val (.int v190_0), .val (.int v192_0), .unset] [])) _
          refine XS.iconst X200.here hx rfl (hb hby at_229) ?_
          show Steps p.tables e below (T200.setTop (mkF m 230 #[.val (.int p1), .val (.int p2), .val (.int p3), .val (.ref b2), .val (.int v95_0), .val (.int (1 : Int32)), .unset, .unset, .unset, .unset, .unset, .unset, .val (.int hh), .val (.int v190_0), .val (.int v192_0), .unset] [(.int (4 : Int32))])) _
          refine XS.istore X200.here hx rfl (hb hby at_230) rfl (l' := #[.val (.int p1), .val (.int p2), .val (.int p3), .val (.ref b2), .val (.int v95_0), .val (.int (1 : Int32)), .val (.int (4 : Int32)), .unset, .unset, .unset, .unset, .unset, .val (.int hh), .val (.int v190_0), .val (.int v192_0), .unset]) rfl ?_
          show Steps p.tables e below (T200.setTop (mkF m 232 #[.val (.int p1), .val (.int p2), .val (.int p3), .val (.ref b2), .val (.int v95_0), .val (.int (1 : Int32)), .val (.int (4 : Int32)), .unset, .unset, .unset, .unset, .unset, .val (.int hh), .val (.int v190_0), .val (.int v192_0), .unset] [])) _
          refine XS.iconst X200.here hx rfl (hb hby at_232) ?_
          show Steps p.tables e below (T200.setTop (mkF m 233 #[.val (.int p1), .val (.int p2), .val (.int p3), .val (.ref b2), .val (.int v95_0), .val (.int (1 : Int32)), .val (.int (4 : Int32)), .unset, .unset, .unset, .unset, .unset, .val (.int hh), .val (.int v190_0), .val (.int v192_0), .unset] [(.int (4 : Int32))])) _
          refine XS.istore X200.here hx rfl (hb hby at_233) rfl (l' := #[.val (.int p1), .val (.int p2), .val (.int p3), .val (.ref b2), .val (.int v95_0), .val (.int (1 : Int32)), .val (.int (4 : Int32)), .val (.int (4 : Int32)), .unset, .unset, .unset, .unset, .val (.int hh), .val (.int v190_0), .val (.int v192_0), .unset]) rfl ?_
          exact kt
        exact ⟨_, _, _, _, X200, e200, N200, K200, Z200, SCS_202, V0_200, ok201, (by (try simp only [if_neg hc203]); exact pre214)⟩
    obtain ⟨hs, ehs⟩ : ∃ z, z = (if (0 : Int32) < v190_0 then ((5 : Int32) + v190_0) else (4 : Int32)) := ⟨_, rfl⟩
    rw [← ehs] at pre205
    have bhs := own_hs bu ehs
    have ehe : (hs + hh).toInt = hs.toInt + hh.toInt := own_addI rfl rfl (by omega) (by omega) (by omega) (by omega)
    have pre215 : ∀ t, Steps p.tables e below (T205.setTop (mkF m 237 #[.val (.int p1), .val (.int p2), .val (.int p3), .val (.ref b2), .val (.int v95_0), .val (.int (1 : Int32)), .val (.int (if (0 : Int32) < v190_0 then ((4 : Int32) + v190_0) else (4 : Int32))), .val (.int hs), .unset, .unset, .unset, .unset, .val (.int hh), .val (.int v190_0), .val (.int v192_0), .unset] [(.int hh)])) t → Steps p.tables e below (s₁.setTop (entryFrame m #[(.int p1), (.int p2), (.int p3)] maxLocals)) t := by
      intro t kt
      refine pre205 t ?_
      show Steps p.tables e below (T205.setTop (mkF m 235 #[.val (.int p1), .val (.int p2), .val (.int p3), .val (.ref b2), .val (.int v95_0), .val (.int (1 : Int32)), .val (.int (if (0 : Int32) < v190_0 then ((4 : Int32) + v190_0) else (4 : Int32))), .val (.int hs), .unset, .unset, .unset, .unset, .val (.int hh), .val (.int v190_0), .val (.int v192_0), .unset] [])) _
      refine XS.iload X205.here hx rfl (hb hby at_235) rfl ?_
      exact kt
    obtain ⟨T216, h216, L216, vs216_0, X216, e216, N216, K216, Z216, SCS_216, V0_216, okvs216_0, pre216⟩ : ∃ (T' : State) (h' : Heap) (L' : List Loc) (vs216_0 : List Value), Stand p l e room_1 s m #[(.int p1), (.int p2), (.int p3)] below meth c T' L' 1 20 ∧ T'.heap = h' ∧ Fr n0 L' ∧ Keep h0 h' [] ∧ n0 ≤ h'.size ∧ Sta Z h' "java/lang/String" "COMPACT_STRINGS" "Z" (.int cz) ∧ Arv Z h' b2 k2 .char (20 : Int32) vs216_0 (.int (0 : Int32)) ∧ own_ok vs216_0 ∧ ∀ t, Steps p.tables e below (T'.setTop (mkF m 246 #[.val (.int p1), .val (.int p2), .val (.int p3), .val (.ref b2), .val (.int v95_0), .val (.int (1 : Int32)), .val (.int (if (0 : Int32) < v190_0 then ((4 : Int32) + v190_0) else (4 : Int32))), .val (.int hs), .unset, .unset, .unset, .unset, .val (.int hh), .val (.int v190_0), .val (.int v192_0), .unset] [])) t → Steps p.tables e below (s₁.setTop (entryFrame m #[(.int p1), (.int p2), (.int p3)] maxLocals)) t := by
      by_cases hc237 : (0 : Int32) < hh
      · skip
        have pre217 : ∀ t, Steps p.tables e below (T205.setTop (mkF m 240 #[.val (.int p1), .val (.int p2), .val (.int p3), .val (.ref b2), .val (.int v95_0), .val (.int (1 : Int32)), .val (.int (if (0 : Int32) < v190_0 then ((4 : Int32) + v190_0) else (4 : Int32))), .val (.int hs), .unset, .unset, .unset, .unset, .val (.int hh), .val (.int v190_0), .val (.int v192_0), .unset] [])) t → Steps p.tables e below (s₁.setTop (entryFrame m #[(.int p1), (.int p2), (.int p3)] maxLocals)) t := by
          intro t kt
          refine pre215 t ?_
          show Steps p.tables e below (T205.setTop (mkF m 237 #[.val (.int p1), .val (.int p2), .val (.int p3), .val (.ref b2), .val (.int v95_0), .val (.int (1 : Int32)), .val (.int (if (0 : Int32) < v190_0 then ((4 : Int32) + v190_0) else (4 : Int32))), .val (.int hs), .unset, .unset, .unset, .unset, .val (.int hh), .val (.int v190_0), .val (.int v192_0), .unset] [(.int hh)])) _
          refine XS.ifNo X205.here hx rfl (hb hby at_237) rfl ((if0 _ _).trans (tlt hc237).2.2.2) ?_
          exact kt
        have pre218 : ∀ t, Steps p.tables e below (T205.setTop (mkF m 245 #[.val (.int p1), .val (.int p2), .val (.int p3), .val (.ref b2), .val (.int v95_0), .val (.int (1 : Int32)), .val (.int (if (0 : Int32) < v190_0 then ((4 : Int32) + v190_0) else (4 : Int32))), .val (.int hs), .unset, .unset, .unset, .unset, .val (.int hh), .val (.int v190_0), .val (.int v192_0), .unset] [(.int (104 : Int32)), (.int hs), (.ref b2)])) t → Steps p.tables e below (s₁.setTop (entryFrame m #[(.int p1), (.int p2), (.int p3)] maxLocals)) t := by
          intro t kt
          refine pre217 t ?_
          show Steps p.tables e below (T205.setTop (mkF m 240 #[.val (.int p1), .val (.int p2), .val (.int p3), .val (.ref b2), .val (.int v95_0), .val (.int (1 : Int32)), .val (.int (if (0 : Int32) < v190_0 then ((4 : Int32) + v190_0) else (4 : Int32))), .val (.int hs), .unset, .unset, .unset, .unset, .val (.int hh), .val (.int v190_0), .val (.int v192_0), .unset] [])) _
          refine XS.aloadN X205.here hx rfl (hb hby at_240) rfl rfl ?_
          show Steps p.tables e below (T205.setTop (mkF m 241 #[.val (.int p1), .val (.int p2), .val (.int p3), .val (.ref b2), .val (.int v95_0), .val (.int (1 : Int32)), .val (.int (if (0 : Int32) < v190_0 then ((4 : Int32) + v190_0) else (4 : Int32))), .val (.int hs), .unset, .unset, .unset, .unset, .val (.int hh), .val (.int v190_0), .val (.int v192_0), .unset] [(.ref b2)])) _
          refine XS.iload X205.here hx rfl (hb hby at_241) rfl ?_
          show Steps p.tables e below (T205.setTop (mkF m 243 #[.val (.int p1), .val (.int p2), .val (.int p3), .val (.ref b2), .val (.int v95_0), .val (.int (1 : Int32)), .val (.int (if (0 : Int32) < v190_0 then ((4 : Int32) + v190_0) else (4 : Int32))), .val (.int hs), .unset, .unset, .unset, .unset, .val (.int hh), .val (.int v190_0), .val (.int v192_0), .unset] [(.int hs), (.ref b2)])) _
          refine XS.bipush X205.here hx rfl (hb hby at_243) ?_
          exact kt
        obtain ⟨cl219, Ar219, q219, S219, M219, H219, G219⟩ := (id V0_205)
        have ok220 : own_ok (vs205_0.set (hs).toNatClampNeg (.int (nar .char (104 : Int32)))) := own_okset okvs205_0 _ (by decide)
        have hin219 : ¬ (hs < 0 ∨ cl219.slots.size ≤ (hs).toNatClampNeg) := inb_of S219 (own_in (by omega))
        obtain ⟨T219, h219, X219, e219, W219, st219⟩ := stC X205 hx hZ e205 Ar219 (j := hs) hin219 (g := (mkF m 245 #[.val (.int p1), .val (.int p2), .val (.int p3), .val (.ref b2), .val (.int v95_0), .val (.int (1 : Int32)), .val (.int (if (0 : Int32) < v190_0 then ((4 : Int32) + v190_0) else (4 : Int32))), .val (.int hs), .unset, .unset, .unset, .unset, .val (.int hh), .val (.int v190_0), .val (.int v192_0), .unset] [(.int (104 : Int32)), (.int hs), (.ref b2)])) rfl rfl (hb hby at_245)
        have V0_219 := Arv.set Ar219 q219 S219 M219 H219 G219 (fits_nar_char _) W219 (hs).toNatClampNeg rfl (own_oklt okvs205_0 (own_in (by omega)))
        have N219 := Fr.snoc X219 N205 g_b2
        have K219 : Keep h0 h219 [] := K205.wr W219 (Or.inr sz_b2)
        have Z219 : n0 ≤ h219.size := Nat.le_trans Z205 (Keep.of_wr W219).1
        have SCS_221 := SCS_205.wr W219
        have pre219 : ∀ t, Steps p.tables e below (T219.setTop (mkF m 246 #[.val (.int p1), .val (.int p2), .val (.int p3), .val (.ref b2), .val (.int v95_0), .val (.int (1 : Int32)), .val (.int (if (0 : Int32) < v190_0 then ((4 : Int32) + v190_0) else (4 : Int32))), .val (.int hs), .unset, .unset, .unset, .unset, .val (.int hh), .val (.int v190_0), .val (.int v192_0), .unset] [])) t → Steps p.tables e below (s₁.setTop (entryFrame m #[(.int p1), (.int p2), (.int p3)] maxLocals)) t := fun t kt => pre218 t (st219 _ kt)
        exact ⟨_, _, _, _, X219, e219, N219, K219, Z219, SCS_221, V0_219, ok220, (by (try simp only [if_pos hc237]); exact pre219)⟩
      · skip
        have pre223 : ∀ t, Steps p.tables e below (T205.setTop (mkF m 246 #[.val (.int p1), .val (.int p2), .val (.int p3), .val (.ref b2), .val (.int v95_0), .val (.int (1 : Int32)), .val (.int (if (0 : Int32) < v190_0 then ((4 : Int32) + v190_0) else (4 : Int32))), .val (.int hs), .unset, .unset, .unset, .unset, .val (.int hh), .val (.int v190_0), .val (.int v192_0), .unset] [])) t → Steps p.tables e below (s₁.setTop (entryFrame m #[(.int p1), (.int p2), (.int p3)] maxLocals)) t := by
          intro t kt
          refine pre215 t ?_
          show Steps p.tables e below (T205.setTop (mkF m 237 #[.val (.int p1), .val (.int p2), .val (.int p3), .val (.ref b2), .val (.int v95_0), .val (.int (1 : Int32)), .val (.int (if (0 : Int32) < v190_0 then ((4 : Int32) + v190_0) else (4 : Int32))), .val (.int hs), .unset, .unset, .unset, .unset, .val (.int hh), .val (.int v190_0), .val (.int v192_0), .unset] [(.int hh)])) _
          refine XS.ifYes X205.here hx rfl (pc0 := 237) (pc' := 246) rfl (hb hby at_237) rfl ((if0 _ _).trans (flt hc237).2.2.2) (by decide) (by decide) ?_
          exact kt
        exact ⟨_, _, _, _, X205, e205, N205, K205, Z205, SCS_205, V0_205, okvs205_0, (by (try simp only [if_neg hc237]); exact pre223)⟩
    have pre224 : ∀ t, Steps p.tables e below (T216.setTop (mkF m 249 #[.val (.int p1), .val (.int p2), .val (.int p3), .val (.ref b2), .val (.int v95_0), .val (.int (1 : Int32)), .val (.int (if (0 : Int32) < v190_0 then ((4 : Int32) + v190_0) else (4 : Int32))), .val (.int hs), .unset, .unset, .unset, .unset, .val (.int hh), .val (.int v190_0), .val (.int v192_0), .unset] [(.int (1 : Int32)), (.int hh)])) t → Steps p.tables e below (s₁.setTop (entryFrame m #[(.int p1), (.int p2), (.int p3)] maxLocals)) t := by
      intro t kt
      refine pre216 t ?_
      show Steps p.tables e below (T216.setTop (mkF m 246 #[.val (.int p1), .val (.int p2), .val (.int p3), .val (.ref b2), .val (.int v95_0), .val (.int (1 : Int32)), .val (.int (if (0 : Int32) < v190_0 then ((4 : Int32) + v190_0) else (4 : Int32))), .val (.int hs), .unset, .unset, .unset, .unset, .val (.int hh), .val (.int v190_0), .val (.int v192_0), .unset] [])) _
      refine XS.iload X216.here hx rfl (hb hby at_246) rfl ?_
      show Steps p.tables e below (T216.setTop (mkF m 248 #[.val (.int p1), .val (.int p2), .val (.int p3), .val (.ref b2), .val (.int v95_0), .val (.int (1 : Int32)), .val (.int (if (0 : Int32) < v190_0 then ((4 : Int32) + v190_0) else (4 : Int32))), .val (.int hs), .unset, .unset, .unset, .unset, .val (.int hh), .val (.int v190_0), .val (.int v192_0), .unset] [(.int hh)])) _
      refine XS.iconst X216.here hx rfl (hb hby at_248) ?_
      exact kt
    obtain ⟨T225, h225, L225, vs225_0, X225, e225, N225, K225, Z225, SCS_225, V0_225, okvs225_0, pre225⟩ : ∃ (T' : State) (h' : Heap) (L' : List Loc) (vs225_0 : List Value), Stand p l e room_1 s m #[(.int p1), (.int p2), (.int p3)] below meth c T' L' 1 20 ∧ T'.heap = h' ∧ Fr n0 L' ∧ Keep h0 h' [] ∧ n0 ≤ h'.size ∧ Sta Z h' "java/lang/String" "COMPACT_STRINGS" "Z" (.int cz) ∧ Arv Z h' b2 k2 .char (20 : Int32) vs225_0 (.int (0 : Int32)) ∧ own_ok vs225_0 ∧ ∀ t, Steps p.tables e below (T'.setTop (mkF m 260 #[.val (.int p1), .val (.int p2), .val (.int p3), .val (.ref b2), .val (.int v95_0), .val (.int (1 : Int32)), .val (.int (if (0 : Int32) < v190_0 then ((4 : Int32) + v190_0) else (4 : Int32))), .val (.int hs), .unset, .unset, .unset, .unset, .val (.int hh), .val (.int v190_0), .val (.int v192_0), .unset] [])) t → Steps p.tables e below (s₁.setTop (entryFrame m #[(.int p1), (.int p2), (.int p3)] maxLocals)) t := by
      by_cases hc249 : (1 : Int32) < hh
      · skip
        have pre226 : ∀ t, Steps p.tables e below (T216.setTop (mkF m 252 #[.val (.int p1), .val (.int p2), .val (.int p3), .val (.ref b2), .val (.int v95_0), .val (.int (1 : Int32)), .val (.int (if (0 : Int32) < v190_0 then ((4 : Int32) + v190_0) else (4 : Int32))), .val (.int hs), .unset, .unset, .unset, .unset, .val (.int hh), .val (.int v190_0), .val (.int v192_0), .unset] [])) t → Steps p.tables e below (s₁.setTop (entryFrame m #[(.int p1), (.int p2), (.int p3)] maxLocals)) t := by
          intro t kt
          refine pre224 t ?_
          show Steps p.tables e below (T216.setTop (mkF m 249 #[.val (.int p1), .val (.int p2), .val (.int p3), .val (.ref b2), .val (.int v95_0), .val (.int (1 : Int32)), .val (.int (if (0 : Int32) < v190_0 then ((4 : Int32) + v190_0) else (4 : Int32))), .val (.int hs), .unset, .unset, .unset, .unset, .val (.int hh), .val (.int v190_0), .val (.int v192_0), .unset] [(.int (1 : Int32)), (.int hh)])) _
          refine XS.icmpNo X216.here hx rfl (hb hby at_249) rfl (tlt hc249).2.2.2 ?_
          exact kt
        have pre227 : ∀ t, Steps p.tables e below (T216.setTop (mkF m 259 #[.val (.int p1), .val (.int p2), .val (.int p3), .val (.ref b2), .val (.int v95_0), .val (.int (1 : Int32)), .val (.int (if (0 : Int32) < v190_0 then ((4 : Int32) + v190_0) else (4 : Int32))), .val (.int hs), .unset, .unset, .unset, .unset, .val (.int hh), .val (.int v190_0), .val (.int v192_0), .unset] [(.int (104 : Int32)), (.int (hs + (1 : Int32))), (.ref b2)])) t → Steps p.tables e below (s₁.setTop (entryFrame m #[(.int p1), (.int p2), (.int p3)] maxLocals)) t := by
          intro t kt
          refine pre226 t ?_
          show Steps p.tables e below (T216.setTop (mkF m 252 #[.val (.int p1), .val (.int p2), .val (.int p3), .val (.ref b2), .val (.int v95_0), .val (.int (1 : Int32)), .val (.int (if (0 : Int32) < v190_0 then ((4 : Int32) + v190_0) else (4 : Int32))), .val (.int hs), .unset, .unset, .unset, .unset, .val (.int hh), .val (.int v190_0), .val (.int v192_0), .unset] [])) _
          refine XS.aloadN X216.here hx rfl (hb hby at_252) rfl rfl ?_
          show Steps p.tables e below (T216.setTop (mkF m 253 #[.val (.int p1), .val (.int p2), .val (.int p3), .val (.ref b2), .val (.int v95_0), .val (.int (1 : Int32)), .val (.int (if (0 : Int32) < v190_0 then ((4 : Int32) + v190_0) else (4 : Int32))), .val (.int hs), .unset, .unset, .unset, .unset, .val (.int hh), .val (.int v190_0), .val (.int v192_0), .unset] [(.ref b2)])) _
          refine XS.iload X216.here hx rfl (hb hby at_253) rfl ?_
          show Steps p.tables e below (T216.setTop (mkF m 255 #[.val (.int p1), .val (.int p2), .val (.int p3), .val (.ref b2), .val (.int v95_0), .val (.int (1 : Int32)), .val (.int (if (0 : Int32) < v190_0 then ((4 : Int32) + v190_0) else (4 : Int32))), .val (.int hs), .unset, .unset, .unset, .unset, .val (.int hh), .val (.int v190_0), .val (.int v192_0), .unset] [(.int hs), (.ref b2)])) _
          refine XS.iconst X216.here hx rfl (hb hby at_255) ?_
          show Steps p.tables e below (T216.setTop (mkF m 256 #[.val (.int p1), .val (.int p2), .val (.int p3), .val (.ref b2), .val (.int v95_0), .val (.int (1 : Int32)), .val (.int (if (0 : Int32) < v190_0 then ((4 : Int32) + v190_0) else (4 : Int32))), .val (.int hs), .unset, .unset, .unset, .unset, .val (.int hh), .val (.int v190_0), .val (.int v192_0), .unset] [(.int (1 : Int32)), (.int hs), (.ref b2)])) _
          refine XS.iadd X216.here hx rfl (hb hby at_256) rfl ?_
          show Steps p.tables e below (T216.setTop (mkF m 257 #[.val (.int p1), .val (.int p2), .val (.int p3), .val (.ref b2), .val (.int v95_0), .val (.int (1 : Int32)), .val (.int (if (0 : Int32) < v190_0 then ((4 : Int32) + v190_0) else (4 : Int32))), .val (.int hs), .unset, .unset, .unset, .unset, .val (.int hh), .val (.int v190_0), .val (.int v192_0), .unset] [(.int (hs + (1 : Int32))), (.ref b2)])) _
          refine XS.bipush X216.here hx rfl (hb hby at_257) ?_
          exact kt
        obtain ⟨cl228, Ar228, q228, S228, M228, H228, G228⟩ := (id V0_216)
        have ok229 : own_ok (vs216_0.set ((hs + (1 : Int32))).toNatClampNeg (.int (nar .char (104 : Int32)))) := own_okset okvs216_0 _ (by decide)
        have hin228 : ¬ ((hs + (1 : Int32)) < 0 ∨ cl228.slots.size ≤ ((hs + (1 : Int32))).toNatClampNeg) := inb_of S228 (own_in (by rw [own_addI rfl (show (1 : Int32).toInt = 1 by decide) (by omega) (by omega) (by omega) (by omega)]; omega))
        obtain ⟨T228, h228, X228, e228, W228, st228⟩ := stC X216 hx hZ e216 Ar228 (j := (hs + (1 : Int32))) hin228 (g := (mkF m 259 #[.val (.int p1), .val (.int p2), .val (.int p3), .val (.ref b2), .val (.int v95_0), .val (.int (1 : Int32)), .val (.int (if (0 : Int32) < v190_0 then ((4 : Int32) + v190_0) else (4 : Int32))), .val (.int hs), .unset, .unset, .unset, .unset, .val (.int hh), .val (.int v190_0), .val (.int v192_0), .unset] [(.int (104 : Int32)), (.int (hs + (1 : Int32))), (.ref b2)])) rfl rfl (hb hby at_259)
        have V0_228 := Arv.set Ar228 q228 S228 M228 H228 G228 (fits_nar_char _) W228 ((hs + (1 : Int32))).toNatClampNeg rfl (own_oklt okvs216_0 (own_in (by rw [own_addI rfl (show (1 : Int32).toInt = 1 by decide) (by omega) (by omega) (by omega) (by omega)]; omega)))
        have N228 := Fr.snoc X228 N216 g_b2
        have K228 : Keep h0 h228 [] := K216.wr W228 (Or.inr sz_b2)
        have Z228 : n0 ≤ h228.size := Nat.le_trans Z216 (Keep.of_wr W228).1
        have SCS_230 := SCS_216.wr W228
        have pre228 : ∀ t, Steps p.tables e below (T228.setTop (mkF m 260 #[.val (.int p1), .val (.int p2), .val (.int p3), .val (.ref b2), .val (.int v95_0), .val (.int (1 : Int32)), .val (.int (if (0 : Int32) < v190_0 then ((4 : Int32) + v190_0) else (4 : Int32))), .val (.int hs), .unset, .unset, .unset, .unset, .val (.int hh), .val (.int v190_0), .val (.int v192_0), .unset] [])) t → Steps p.tables e below (s₁.setTop (entryFrame m #[(.int p1), (.int p2), (.int p3)] maxLocals)) t := fun t kt => pre227 t (st228 _ kt)
        exact ⟨_, _, _, _, X228, e228, N228, K228, Z228, SCS_230, V0_228, ok229, (by (try simp only [if_pos hc249]); exact pre228)⟩
      · skip
        have pre232 : ∀ t, Steps p.tables e below (T216.setTop (mkF m 260 #[.val (.int p1), .val (.int p2), .val (.int p3), .val (.ref b2), .val (.int v95_0), .val (.int (1 : Int32)), .val (.int (if (0 : Int32) < v190_0 then ((4 : Int32) + v190_0) else (4 : Int32))), .val (.int hs), .unset, .unset, .unset, .unset, .val (.int hh), .val (.int v190_0), .val (.int v192_0), .unset] [])) t → Steps p.tables e below (s₁.setTop (entryFrame m #[(.int p1), (.int p2), (.int p3)] maxLocals)) t := by
          intro t kt
          refine pre224 t ?_
          show Steps p.tables e below (T216.setTop (mkF m 249 #[.val (.int p1), .val (.int p2), .val (.int p3), .val (.ref b2), .val (.int v95_0), .val (.int (1 : Int32)), .val (.int (if (0 : Int32) < v190_0 then ((4 : Int32) + v190_0) else (4 : Int32))), .val (.int hs), .unset, .unset, .unset, .unset, .val (.int hh), .val (.int v190_0), .val (.int v192_0), .unset] [(.int (1 : Int32)), (.int hh)])) _
          refine XS.icmpYes X216.here hx rfl (pc0 := 249) (pc' := 260) rfl (hb hby at_249) rfl (flt hc249).2.2.2 (by decide) (by decide) ?_
          exact kt
        exact ⟨_, _, _, _, X216, e216, N216, K216, Z216, SCS_216, V0_216, okvs216_0, (by (try simp only [if_neg hc249]); exact pre232)⟩
    have pre233 : ∀ t, Steps p.tables e below (T225.setTop (mkF m 263 #[.val (.int p1), .val (.int p2), .val (.int p3), .val (.ref b2), .val (.int v95_0), .val (.int (1 : Int32)), .val (.int (if (0 : Int32) < v190_0 then ((4 : Int32) + v190_0) else (4 : Int32))), .val (.int hs), .unset, .unset, .unset, .unset, .val (.int hh), .val (.int v190_0), .val (.int v192_0), .unset] [(.int (2 : Int32)), (.int hh)])) t → Steps p.tables e below (s₁.setTop (entryFrame m #[(.int p1), (.int p2), (.int p3)] maxLocals)) t := by
      intro t kt
      refine pre225 t ?_
      show Steps p.tables e below (T225.setTop (mkF m 260 #[.val (.int p1), .val (.int p2), .val (.int p3), .val (.ref b2), .val (.int v95_0), .val (.int (1 : Int32)), .val (.int (if (0 : Int32) < v190_0 then ((4 : Int32) + v190_0) else (4 : Int32))), .val (.int hs), .unset, .unset, .unset, .unset, .val (.int hh), .val (.int v190_0), .val (.int v192_0), .unset] [])) _
      refine XS.iload X225.here hx rfl (hb hby at_260) rfl ?_
      show Steps p.tables e below (T225.setTop (mkF m 262 #[.val (.int p1), .val (.int p2), .val (.int p3), .val (.ref b2), .val (.int v95_0), .val (.int (1 : Int32)), .val (.int (if (0 : Int32) < v190_0 then ((4 : Int32) + v190_0) else (4 : Int32))), .val (.int hs), .unset, .unset, .unset, .unset, .val (.int hh), .val (.int v190_0), .val (.int v192_0), .unset] [(.int hh)])) _
      refine XS.iconst X225.here hx rfl (hb hby at_262) ?_
      exact kt
    obtain ⟨T234, h234, L234, vs234_0, X234, e234, N234, K234, Z234, SCS_234, V0_234, okvs234_0, pre234⟩ : ∃ (T' : State) (h' : Heap) (L' : List Loc) (vs234_0 : List Value), Stand p l e room_1 s m #[(.int p1), (.int p2), (.int p3)] below meth c T' L' 1 20 ∧ T'.heap = h' ∧ Fr n0 L' ∧ Keep h0 h' [] ∧ n0 ≤ h'.size ∧ Sta Z h' "java/lang/String" "COMPACT_STRINGS" "Z" (.int cz) ∧ Arv Z h' b2 k2 .char (20 : Int32) vs234_0 (.int (0 : Int32)) ∧ own_ok vs234_0 ∧ ∀ t, Steps p.tables e below (T'.setTop (mkF m 274 #[.val (.int p1), .val (.int p2), .val (.int p3), .val (.ref b2), .val (.int v95_0), .val (.int (1 : Int32)), .val (.int (if (0 : Int32) < v190_0 then ((4 : Int32) + v190_0) else (4 : Int32))), .val (.int hs), .unset, .unset, .unset, .unset, .val (.int hh), .val (.int v190_0), .val (.int v192_0), .unset] [])) t → Steps p.tables e below (s₁.setTop (entryFrame m #[(.int p1), (.int p2), (.int p3)] maxLocals)) t := by
      by_cases hc263 : (2 : Int32) < hh
      · skip
        have pre235 : ∀ t, Steps p.tables e below (T225.setTop (mkF m 266 #[.val (.int p1), .val (.int p2), .val (.int p3), .val (.ref b2), .val (.int v95_0), .val (.int (1 : Int32)), .val (.int (if (0 : Int32) < v190_0 then ((4 : Int32) + v190_0) else (4 : Int32))), .val (.int hs), .unset, .unset, .unset, .unset, .val (.int hh), .val (.int v190_0), .val (.int v192_0), .unset] [])) t → Steps p.tables e below (s₁.setTop (entryFrame m #[(.int p1), (.int p2), (.int p3)] maxLocals)) t := by
          intro t kt
          refine pre233 t ?_
          show Steps p.tables e below (T225.setTop (mkF m 263 #[.val (.int p1), .val (.int p2), .val (.int p3), .val (.ref b2), .val (.int v95_0), .val (.int (1 : Int32)), .val (.int (if (0 : Int32) < v190_0 then ((4 : Int32) + v190_0) else (4 : Int32))), .val (.int hs), .unset, .unset, .unset, .unset, .val (.int hh), .val (.int v190_0), .val (.int v192_0), .unset] [(.int (2 : Int32)), (.int hh)])) _
          refine XS.icmpNo X225.here hx rfl (hb hby at_263) rfl (tlt hc263).2.2.2 ?_
          exact kt
        have pre236 : ∀ t, Steps p.tables e below (T225.setTop (mkF m 273 #[.val (.int p1), .val (.int p2), .val (.int p3), .val (.ref b2), .val (.int v95_0), .val (.int (1 : Int32)), .val (.int (if (0 : Int32) < v190_0 then ((4 : Int32) + v190_0) else (4 : Int32))), .val (.int hs), .unset, .unset, .unset, .unset, .val (.int hh), .val (.int v190_0), .val (.int v192_0), .unset] [(.int (104 : Int32)), (.int (hs + (2 : Int32))), (.ref b2)])) t → Steps p.tables e below (s₁.setTop (entryFrame m #[(.int p1), (.int p2), (.int p3)] maxLocals)) t := by
          intro t kt
          refine pre235 t ?_
          show Steps p.tables e below (T225.setTop (mkF m 266 #[.val (.int p1), .val (.int p2), .val (.int p3), .val (.ref b2), .val (.int v95_0), .val (.int (1 : Int32)), .val (.int (if (0 : Int32) < v190_0 then ((4 : Int32) + v190_0) else (4 : Int32))), .val (.int hs), .unset, .unset, .unset, .unset, .val (.int hh), .val (.int v190_0), .val (.int v192_0), .unset] [])) _
          refine XS.aloadN X225.here hx rfl (hb hby at_266) rfl rfl ?_
          show Steps p.tables e below (T225.setTop (mkF m 267 #[.val (.int p1), .val (.int p2), .val (.int p3), .val (.ref b2), .val (.int v95_0), .val (.int (1 : Int32)), .val (.int (if (0 : Int32) < v190_0 then ((4 : Int32) + v190_0) else (4 : Int32))), .val (.int hs), .unset, .unset, .unset, .unset, .val (.int hh), .val (.int v190_0), .val (.int v192_0), .unset] [(.ref b2)])) _
          refine XS.iload X225.here hx rfl (hb hby at_267) rfl ?_
          show Steps p.tables e below (T225.setTop (mkF m 269 #[.val (.int p1), .val (.int p2), .val (.int p3), .val (.ref b2), .val (.int v95_0), .val (.int (1 : Int32)), .val (.int (if (0 : Int32) < v190_0 then ((4 : Int32) + v190_0) else (4 : Int32))), .val (.int hs), .unset, .unset, .unset, .unset, .val (.int hh), .val (.int v190_0), .val (.int v192_0), .unset] [(.int hs), (.ref b2)])) _
          refine XS.iconst X225.here hx rfl (hb hby at_269) ?_
          show Steps p.tables e below (T225.setTop (mkF m 270 #[.val (.int p1), .val (.int p2), .val (.int p3), .val (.ref b2), .val (.int v95_0), .val (.int (1 : Int32)), .val (.int (if (0 : Int32) < v190_0 then ((4 : Int32) + v190_0) else (4 : Int32))), .val (.int hs), .unset, .unset, .unset, .unset, .val (.int hh), .val (.int v190_0), .val (.int v192_0), .unset] [(.int (2 : Int32)), (.int hs), (.ref b2)])) _
          refine XS.iadd X225.here hx rfl (hb hby at_270) rfl ?_
          show Steps p.tables e below (T225.setTop (mkF m 271 #[.val (.int p1), .val (.int p2), .val (.int p3), .val (.ref b2), .val (.int v95_0), .val (.int (1 : Int32)), .val (.int (if (0 : Int32) < v190_0 then ((4 : Int32) + v190_0) else (4 : Int32))), .val (.int hs), .unset, .unset, .unset, .unset, .val (.int hh), .val (.int v190_0), .val (.int v192_0), .unset] [(.int (hs + (2 : Int32))), (.ref b2)])) _
          refine XS.bipush X225.here hx rfl (hb hby at_271) ?_
          exact kt
        obtain ⟨cl237, Ar237, q237, S237, M237, H237, G237⟩ := (id V0_225)
        have ok238 : own_ok (vs225_0.set ((hs + (2 : Int32))).toNatClampNeg (.int (nar .char (104 : Int32)))) := own_okset okvs225_0 _ (by decide)
        have hin237 : ¬ ((hs + (2 : Int32)) < 0 ∨ cl237.slots.size ≤ ((hs + (2 : Int32))).toNatClampNeg) := inb_of S237 (own_in (by rw [own_addI rfl (show (2 : Int32).toInt = 2 by decide) (by omega) (by omega) (by omega) (by omega)]; omega))
        obtain ⟨T237, h237, X237, e237, W237, st237⟩ := stC X225 hx hZ e225 Ar237 (j := (hs + (2 : Int32))) hin237 (g := (mkF m 273 #[.val (.int p1), .val (.int p2), .val (.int p3), .val (.ref b2), .val (.int v95_0), .val (.int (1 : Int32)), .val (.int (if (0 : Int32) < v190_0 then ((4 : Int32) + v190_0) else (4 : Int32))), .val (.int hs), .unset, .unset, .unset, .unset, .val (.int hh), .val (.int v190_0), .val (.int v192_0), .unset] [(.int (104 : Int32)), (.int (hs + (2 : Int32))), (.ref b2)])) rfl rfl (hb hby at_273)
        have V0_237 := Arv.set Ar237 q237 S237 M237 H237 G237 (fits_nar_char _) W237 ((hs + (2 : Int32))).toNatClampNeg rfl (own_oklt okvs225_0 (own_in (by rw [own_addI rfl (show (2 : Int32).toInt = 2 by decide) (by omega) (by omega) (by omega) (by omega)]; omega)))
        have N237 := Fr.snoc X237 N225 g_b2
        have K237 : Keep h0 h237 [] := K225.wr W237 (Or.inr sz_b2)
        have Z237 : n0 ≤ h237.size := Nat.le_trans Z225 (Keep.of_wr W237).1
        have SCS_239 := SCS_225.wr W237
        have pre237 : ∀ t, Steps p.tables e below (T237.setTop (mkF m 274 #[.val (.int p1), .val (.int p2), .val (.int p3), .val (.ref b2), .val (.int v95_0), .val (.int (1 : Int32)), .val (.int (if (0 : Int32) < v190_0 then ((4 : Int32) + v190_0) else (4 : Int32))), .val (.int hs), .unset, .unset, .unset, .unset, .val (.int hh), .val (.int v190_0), .val (.int v192_0), .unset] [])) t → Steps p.tables e below (s₁.setTop (entryFrame m #[(.int p1), (.int p2), (.int p3)] maxLocals)) t := fun t kt => pre236 t (st237 _ kt)
        exact ⟨_, _, _, _, X237, e237, N237, K237, Z237, SCS_239, V0_237, ok238, (by (try simp only [if_pos hc263]); exact pre237)⟩
      · skip
        have pre241 : ∀ t, Steps p.tables e below (T225.setTop (mkF m 274 #[.val (.int p1), .val (.int p2), .val (.int p3), .val (.ref b2), .val (.int v95_0), .val (.int (1 : Int32)), .val (.int (if (0 : Int32) < v190_0 then ((4 : Int32) + v190_0) else (4 : Int32))), .val (.int hs), .unset, .unset, .unset, .unset, .val (.int hh), .val (.int v190_0), .val (.int v192_0), .unset] [])) t → Steps p.tables e below (s₁.setTop (entryFrame m #[(.int p1), (.int p2), (.int p3)] maxLocals)) t := by
          intro t kt
          refine pre233 t ?_
          show Steps p.tables e below (T225.setTop (mkF m 263 #[.val (.int p1), .val (.int p2), .val (.int p3), .val (.ref b2), .val (.int v95_0), .val (.int (1 : Int32)), .val (.int (if (0 : Int32) < v190_0 then ((4 : Int32) + v190_0) else (4 : Int32))), .val (.int hs), .unset, .unset, .unset, .unset, .val (.int hh), .val (.int v190_0), .val (.int v192_0), .unset] [(.int (2 : Int32)), (.int hh)])) _
          refine XS.icmpYes X225.here hx rfl (pc0 := 263) (pc' := 274) rfl (hb hby at_263) rfl (flt hc263).2.2.2 (by decide) (by decide) ?_
          exact kt
        exact ⟨_, _, _, _, X225, e225, N225, K225, Z225, SCS_225, V0_225, okvs225_0, (by (try simp only [if_neg hc263]); exact pre241)⟩
    have pre242 : ∀ t, Steps p.tables e below (T234.setTop (mkF m 283 #[.val (.int p1), .val (.int p2), .val (.int p3), .val (.ref b2), .val (.int v95_0), .val (.int (1 : Int32)), .val (.int (if (0 : Int32) < v190_0 then ((4 : Int32) + v190_0) else (4 : Int32))), .val (.int hs), .val (.int (hs + hh)), .unset, .unset, .unset, .val (.int hh), .val (.int v190_0), .val (.int v192_0), .unset] [(.int v192_0)])) t → Steps p.tables e below (s₁.setTop (entryFrame m #[(.int p1), (.int p2), (.int p3)] maxLocals)) t := by
      intro t kt
      refine pre234 t ?_
      show Steps p.tables e below (T234.setTop (mkF m 274 #[.val (.int p1), .val (.int p2), .val (.int p3), .val (.ref b2), .val (.int v95_0), .val (.int (1 : Int32)), .val (.int (if (0 : Int32) < v190_0 then ((4 : Int32) + v190_0) else (4 : Int32))), .val (.int hs), .unset, .unset, .unset, .unset, .val (.int hh), .val (.int v190_0), .val (.int v192_0), .unset] [])) _
      refine XS.iload X234.here hx rfl (hb hby at_274) rfl ?_
      show Steps p.tables e below (T234.setTop (mkF m 276 #[.val (.int p1), .val (.int p2), .val (.int p3), .val (.ref b2), .val (.int v95_0), .val (.int (1 : Int32)), .val (.int (if (0 : Int32) < v190_0 then ((4 : Int32) + v190_0) else (4 : Int32))), .val (.int hs), .unset, .unset, .unset, .unset, .val (.int hh), .val (.int v190_0), .val (.int v192_0), .unset] [(.int hs)])) _
      refine XS.iload X234.here hx rfl (hb hby at_276) rfl ?_
      show Steps p.tables e below (T234.setTop (mkF m 278 #[.val (.int p1), .val (.int p2), .val (.int p3), .val (.ref b2), .val (.int v95_0), .val (.int (1 : Int32)), .val (.int (if (0 : Int32) < v190_0 then ((4 : Int32) + v190_0) else (4 : Int32))), .val (.int hs), .unset, .unset, .unset, .unset, .val (.int hh), .val (.int v190_0), .val (.int v192_0), .unset] [(.int hh), (.int hs)])) _
      refine XS.iadd X234.here hx rfl (hb hby at_278) rfl ?_
      show Steps p.tables e below (T234.setTop (mkF m 279 #[.val (.int p1), .val (.int p2), .val (.int p3), .val (.ref b2), .val (.int v95_0), .val (.int (1 : Int32)), .val (.int (if (0 : Int32) < v190_0 then ((4 : Int32) + v190_0) else (4 : Int32))), .val (.int hs), .unset, .unset, .unset, .unset, .val (.int hh), .val (.int v190_0), .val (.int v192_0), .unset] [(.int (hs + hh))])) _
      refine XS.istore X234.here hx rfl (hb hby at_279) rfl (l' := #[.val (.int p1), .val (.int p2), .val (.int p3), .val (.ref b2), .val (.int v95_0), .val (.int (1 : Int32)), .val (.int (if (0 : Int32) < v190_0 then ((4 : Int32) + v190_0) else (4 : Int32))), .val (.int hs), .val (.int (hs + hh)), .unset, .unset, .unset, .val (.int hh), .val (.int v190_0), .val (.int v192_0), .unset]) rfl ?_
      show Steps p.tables e below (T234.setTop (mkF m 281 #[.val (.int p1), .val (.int p2), .val (.int p3), .val (.ref b2), .val (.int v95_0), .val (.int (1 : Int32)), .val (.int (if (0 : Int32) < v190_0 then ((4 : Int32) + v190_0) else (4 : Int32))), .val (.int hs), .val (.int (hs + hh)), .unset, .unset, .unset, .val (.int hh), .val (.int v190_0), .val (.int v192_0), .unset] [])) _
      refine XS.iload X234.here hx rfl (hb hby at_281) rfl ?_
      exact kt
    by_cases hc283 : v192_0 = (0 : Int32)
    · have pre243 : ∀ t, Steps p.tables e below (T234.setTop (mkF m 347 #[.val (.int p1), .val (.int p2), .val (.int p3), .val (.ref b2), .val (.int v95_0), .val (.int (1 : Int32)), .val (.int (if (0 : Int32) < v190_0 then ((4 : Int32) + v190_0) else (4 : Int32))), .val (.int hs), .val (.int (hs + hh)), .unset, .unset, .unset, .val (.int hh), .val (.int v190_0), .val (.int v192_0), .unset] [])) t → Steps p.tables e below (s₁.setTop (entryFrame m #[(.int p1), (.int p2), (.int p3)] maxLocals)) t := by
        intro t kt
        refine pre242 t ?_
        show Steps p.tables e below (T234.setTop (mkF m 283 #[.val (.int p1), .val (.int p2), .val (.int p3), .val (.ref b2), .val (.int v95_0), .val (.int (1 : Int32)), .val (.int (if (0 : Int32) < v190_0 then ((4 : Int32) + v190_0) else (4 : Int32))), .val (.int hs), .val (.int (hs + hh)), .unset, .unset, .unset, .val (.int hh), .val (.int v190_0), .val (.int v192_0), .unset] [(.int v192_0)])) _
        refine XS.ifYes X234.here hx rfl (pc0 := 283) (pc' := 347) rfl (hb hby at_283) rfl ((if0 _ _).trans (teq hc283).1) (by decide) (by decide) ?_
        exact kt
      have pre244 : ∀ t, Steps p.tables e below (T234.setTop (mkF m 366 #[.val (.int p1), .val (.int p2), .val (.int p3), .val (.ref b2), .val (.int v95_0), .val (.int (1 : Int32)), .val (.int (if (0 : Int32) < v190_0 then ((4 : Int32) + v190_0) else (4 : Int32))), .val (.int hs), .val (.int (hs + hh)), .val (.int (-1 : Int32)), .val (.int (hs + hh)), .val (.int (hs + hh)), .val (.int hh), .val (.int v190_0), .val (.int v192_0), .unset] [(.int (47 : Int32)), (.int (hs + hh)), (.ref b2)])) t → Steps p.tables e below (s₁.setTop (entryFrame m #[(.int p1), (.int p2), (.int p3)] maxLocals)) t := by
        intro t kt
        refine pre243 t ?_
        show Steps p.tables e below (T234.setTop (mkF m 347 #[.val (.int p1), .val (.int p2), .val (.int p3), .val (.ref b2), .val (.int v95_0), .val (.int (1 : Int32)), .val (.int (if (0 : Int32) < v190_0 then ((4 : Int32) + v190_0) else (4 : Int32))), .val (.int hs), .val (.int (hs + hh)), .unset, .unset, .unset, .val (.int hh), .val (.int v190_0), .val (.int v192_0), .unset] [])) _
        refine XS.iconst X234.here hx rfl (hb hby at_347) ?_
        show Steps p.tables e below (T234.setTop (mkF m 348 #[.val (.int p1), .val (.int p2), .val (.int p3), .val (.ref b2), .val (.int v95_0), .val (.int (1 : Int32)), .val (.int (if (0 : Int32) < v190_0 then ((4 : Int32) + v190_0) else (4 : Int32))), .val (.int hs), .val (.int (hs + hh)), .unset, .unset, .unset, .val (.int hh), .val (.int v190_0), .val (.int v192_0), .unset] [(.int (-1 : Int32))])) _
        refine XS.istore X234.here hx rfl (hb hby at_348) rfl (l' := #[.val (.int p1), .val (.int p2), .val (.int p3), .val (.ref b2), .val (.int v95_0), .val (.int (1 : Int32)), .val (.int (if (0 : Int32) < v190_0 then ((4 : Int32) + v190_0) else (4 : Int32))), .val (.int hs), .val (.int (hs + hh)), .val (.int (-1 : Int32)), .unset, .unset, .val (.int hh), .val (.int v190_0), .val (.int v192_0), .unset]) rfl ?_
        show Steps p.tables e below (T234.setTop (mkF m 350 #[.val (.int p1), .val (.int p2), .val (.int p3), .val (.ref b2), .val (.int v95_0), .val (.int (1 : Int32)), .val (.int (if (0 : Int32) < v190_0 then ((4 : Int32) + v190_0) else (4 : Int32))), .val (.int hs), .val (.int (hs + hh)), .val (.int (-1 : Int32)), .unset, .unset, .val (.int hh), .val (.int v190_0), .val (.int v192_0), .unset] [])) _
        refine XS.iload X234.here hx rfl (hb hby at_350) rfl ?_
        show Steps p.tables e below (T234.setTop (mkF m 352 #[.val (.int p1), .val (.int p2), .val (.int p3), .val (.ref b2), .val (.int v95_0), .val (.int (1 : Int32)), .val (.int (if (0 : Int32) < v190_0 then ((4 : Int32) + v190_0) else (4 : Int32))), .val (.int hs), .val (.int (hs + hh)), .val (.int (-1 : Int32)), .unset, .unset, .val (.int hh), .val (.int v190_0), .val (.int v192_0), .unset] [(.int (hs + hh))])) _
        refine XS.istore X234.here hx rfl (hb hby at_352) rfl (l' := #[.val (.int p1), .val (.int p2), .val (.int p3), .val (.ref b2), .val (.int v95_0), .val (.int (1 : Int32)), .val (.int (if (0 : Int32) < v190_0 then ((4 : Int32) + v190_0) else (4 : Int32))), .val (.int hs), .val (.int (hs + hh)), .val (.int (-1 : Int32)), .val (.int (hs + hh)), .unset, .val (.int hh), .val (.int v190_0), .val (.int v192_0), .unset]) rfl ?_
        show Steps p.tables e below (T234.setTop (mkF m 354 #[.val (.int p1), .val (.int p2), .val (.int p3), .val (.ref b2), .val (.int v95_0), .val (.int (1 : Int32)), .val (.int (if (0 : Int32) < v190_0 then ((4 : Int32) + v190_0) else (4 : Int32))), .val (.int hs), .val (.int (hs + hh)), .val (.int (-1 : Int32)), .val (.int (hs + hh)), .unset, .val (.int hh), .val (.int v190_0), .val (.int v192_0), .unset] [])) _
        refine XS.iload X234.here hx rfl (hb hby at_354) rfl ?_
        show Steps p.tables e below (T234.setTop (mkF m 356 #[.val (.int p1), .val (.int p2), .val (.int p3), .val (.ref b2), .val (.int v95_0), .val (.int (1 : Int32)), .val (.int (if (0 : Int32) < v190_0 then ((4 : Int32) + v190_0) else (4 : Int32))), .val (.int hs), .val (.int (hs + hh)), .val (.int (-1 : Int32)), .val (.int (hs + hh)), .unset, .val (.int hh), .val (.int v190_0), .val (.int v192_0), .unset] [(.int hs)])) _
        refine XS.iload X234.here hx rfl (hb hby at_356) rfl ?_
        show Steps p.tables e below (T234.setTop (mkF m 358 #[.val (.int p1), .val (.int p2), .val (.int p3), .val (.ref b2), .val (.int v95_0), .val (.int (1 : Int32)), .val (.int (if (0 : Int32) < v190_0 then ((4 : Int32) + v190_0) else (4 : Int32))), .val (.int hs), .val (.int (hs + hh)), .val (.int (-1 : Int32)), .val (.int (hs + hh)), .unset, .val (.int hh), .val (.int v190_0), .val (.int v192_0), .unset] [(.int hh), (.int hs)])) _
        refine XS.iadd X234.here hx rfl (hb hby at_358) rfl ?_
        show Steps p.tables e below (T234.setTop (mkF m 359 #[.val (.int p1), .val (.int p2), .val (.int p3), .val (.ref b2), .val (.int v95_0), .val (.int (1 : Int32)), .val (.int (if (0 : Int32) < v190_0 then ((4 : Int32) + v190_0) else (4 : Int32))), .val (.int hs), .val (.int (hs + hh)), .val (.int (-1 : Int32)), .val (.int (hs + hh)), .unset, .val (.int hh), .val (.int v190_0), .val (.int v192_0), .unset] [(.int (hs + hh))])) _
        refine XS.istore X234.here hx rfl (hb hby at_359) rfl (l' := #[.val (.int p1), .val (.int p2), .val (.int p3), .val (.ref b2), .val (.int v95_0), .val (.int (1 : Int32)), .val (.int (if (0 : Int32) < v190_0 then ((4 : Int32) + v190_0) else (4 : Int32))), .val (.int hs), .val (.int (hs + hh)), .val (.int (-1 : Int32)), .val (.int (hs + hh)), .val (.int (hs + hh)), .val (.int hh), .val (.int v190_0), .val (.int v192_0), .unset]) rfl ?_
        show Steps p.tables e below (T234.setTop (mkF m 361 #[.val (.int p1), .val (.int p2), .val (.int p3), .val (.ref b2), .val (.int v95_0), .val (.int (1 : Int32)), .val (.int (if (0 : Int32) < v190_0 then ((4 : Int32) + v190_0) else (4 : Int32))), .val (.int hs), .val (.int (hs + hh)), .val (.int (-1 : Int32)), .val (.int (hs + hh)), .val (.int (hs + hh)), .val (.int hh), .val (.int v190_0), .val (.int v192_0), .unset] [])) _
        refine XS.aloadN X234.here hx rfl (hb hby at_361) rfl rfl ?_
        show Steps p.tables e below (T234.setTop (mkF m 362 #[.val (.int p1), .val (.int p2), .val (.int p3), .val (.ref b2), .val (.int v95_0), .val (.int (1 : Int32)), .val (.int (if (0 : Int32) < v190_0 then ((4 : Int32) + v190_0) else (4 : Int32))), .val (.int hs), .val (.int (hs + hh)), .val (.int (-1 : Int32)), .val (.int (hs + hh)), .val (.int (hs + hh)), .val (.int hh), .val (.int v190_0), .val (.int v192_0), .unset] [(.ref b2)])) _
        refine XS.iload X234.here hx rfl (hb hby at_362) rfl ?_
        show Steps p.tables e below (T234.setTop (mkF m 364 #[.val (.int p1), .val (.int p2), .val (.int p3), .val (.ref b2), .val (.int v95_0), .val (.int (1 : Int32)), .val (.int (if (0 : Int32) < v190_0 then ((4 : Int32) + v190_0) else (4 : Int32))), .val (.int hs), .val (.int (hs + hh)), .val (.int (-1 : Int32)), .val (.int (hs + hh)), .val (.int (hs + hh)), .val (.int hh), .val (.int v190_0), .val (.int v192_0), .unset] [(.int (hs + hh)), (.ref b2)])) _
        refine XS.bipush X234.here hx rfl (hb hby at_364) ?_
        exact kt
      obtain ⟨cl245, Ar245, q245, S245, M245, H245, G245⟩ := (id V0_234)
      have ok246 : own_ok (vs234_0.set ((hs + hh)).toNatClampNeg (.int (nar .char (47 : Int32)))) := own_okset okvs234_0 _ (by decide)
      have hin245 : ¬ ((hs + hh) < 0 ∨ cl245.slots.size ≤ ((hs + hh)).toNatClampNeg) := inb_of S245 (own_in (by rw [ehe]; omega))
      obtain ⟨T245, h245, X245, e245, W245, st245⟩ := stC X234 hx hZ e234 Ar245 (j := (hs + hh)) hin245 (g := (mkF m 366 #[.val (.int p1), .val (.int p2), .val (.int p3), .val (.ref b2), .val (.int v95_0), .val (.int (1 : Int32)), .val (.int (if (0 : Int32) < v190_0 then ((4 : Int32) + v190_0) else (4 : Int32))), .val (.int hs), .val (.int (hs + hh)), .val (.int (-1 : Int32)), .val (.int (hs + hh)), .val (.int (hs + hh)), .val (.int hh), .val (.int v190_0), .val (.int v192_0), .unset] [(.int (47 : Int32)), (.int (hs + hh)), (.ref b2)])) rfl rfl (hb hby at_366)
      have V0_245 := Arv.set Ar245 q245 S245 M245 H245 G245 (fits_nar_char _) W245 ((hs + hh)).toNatClampNeg rfl (own_oklt okvs234_0 (own_in (by rw [ehe]; omega)))
      have N245 := Fr.snoc X245 N234 g_b2
      have K245 : Keep h0 h245 [] := K234.wr W245 (Or.inr sz_b2)
      have Z245 : n0 ≤ h245.size := Nat.le_trans Z234 (Keep.of_wr W245).1
      have SCS_247 := SCS_234.wr W245
      have pre245 : ∀ t, Steps p.tables e below (T245.setTop (mkF m 367 #[.val (.int p1), .val (.int p2), .val (.int p3), .val (.ref b2), .val (.int v95_0), .val (.int (1 : Int32)), .val (.int (if (0 : Int32) < v190_0 then ((4 : Int32) + v190_0) else (4 : Int32))), .val (.int hs), .val (.int (hs + hh)), .val (.int (-1 : Int32)), .val (.int (hs + hh)), .val (.int (hs + hh)), .val (.int hh), .val (.int v190_0), .val (.int v192_0), .unset] [])) t → Steps p.tables e below (s₁.setTop (entryFrame m #[(.int p1), (.int p2), (.int p3)] maxLocals)) t := fun t kt => pre244 t (st245 _ kt)
      have pre249 : ∀ t, Steps p.tables e below (T245.setTop (mkF m 438 #[.val (.int p1), .val (.int p2), .val (.int p3), .val (.ref b2), .val (.int v95_0), .val (.int (1 : Int32)), .val (.int (if (0 : Int32) < v190_0 then ((4 : Int32) + v190_0) else (4 : Int32))), .val (.int hs), .val (.int (hs + hh)), .val (.int (-1 : Int32)), .val (.int (hs + hh)), .val (.int (hs + hh)), .val (.int hh), .val (.int v190_0), .val (.int v192_0), .unset] [])) t → Steps p.tables e below (s₁.setTop (entryFrame m #[(.int p1), (.int p2), (.int p3)] maxLocals)) t := by
        intro t kt
        refine pre245 t ?_
        show Steps p.tables e below (T245.setTop (mkF m 367 #[.val (.int p1), .val (.int p2), .val (.int p3), .val (.ref b2), .val (.int v95_0), .val (.int (1 : Int32)), .val (.int (if (0 : Int32) < v190_0 then ((4 : Int32) + v190_0) else (4 : Int32))), .val (.int hs), .val (.int (hs + hh)), .val (.int (-1 : Int32)), .val (.int (hs + hh)), .val (.int (hs + hh)), .val (.int hh), .val (.int v190_0), .val (.int v192_0), .unset] [])) _
        refine XS.goto X245.here hx rfl (pc0 := 367) (pc' := 438) rfl (hb hby at_367) (by decide) (by decide) ?_
        exact kt
      obtain ⟨T250, h250, X250, e250, E250, A250, D250, -, st250⟩ := newO X245 hx hZ hown (hw _ (List.mem_of_getElem? (i := 1) rfl)) (hw _ (List.mem_of_getElem? (i := 2) rfl)) (hw _ (List.mem_of_getElem? (i := 3) rfl)) e245 (g := (mkF m 438 #[.val (.int p1), .val (.int p2), .val (.int p3), .val (.ref b2), .val (.int v95_0), .val (.int (1 : Int32)), .val (.int (if (0 : Int32) < v190_0 then ((4 : Int32) + v190_0) else (4 : Int32))), .val (.int hs), .val (.int (hs + hh)), .val (.int (-1 : Int32)), .val (.int (hs + hh)), .val (.int (hs + hh)), .val (.int hh), .val (.int v190_0), .val (.int v192_0), .unset] [])) rfl (hb hby at_438) (by decide) (by decide)
      obtain ⟨b250, g250⟩ : ∃ z, z = h245.size := ⟨_, rfl⟩
      have ne_b2_b250 : b2 ≠ b250 := Nat.ne_of_lt (Nat.lt_of_lt_of_le V0_245.lt (Nat.le_of_eq g250.symm))
      have g_b250 : n0 ≤ b250 := Nat.le_trans Z245 (Nat.le_of_eq g250.symm)
      have sz_b250 : h0.size ≤ b250 := Nat.le_trans K245.1 (Nat.le_of_eq g250.symm)
      rw [← g250] at A250 D250 st250
      have K250 : Keep h0 h250 [] := K245.ext E250
      have Z250 : n0 ≤ h250.size := Nat.le_trans Z245 E250.1
      have SCS_251 := SCS_247.ext E250
      have V0_252 := V0_245.ext E250
      have F_href_b250 : Fld Z h250 b250 "com/example/meyrin/meyrin/Url" "href" "Ljava/lang/String;" .null := D250 (Or.inr (hw _ (List.mem_of_getElem? (i := 38) rfl))) (ty := (.object "java/lang/String")) (by decide)
      have F_schemeEnd_b250 : Fld Z h250 b250 "com/example/meyrin/meyrin/Url" "schemeEnd" "I" (.int (0 : Int32)) := D250 (Or.inr (hw _ (List.mem_of_getElem? (i := 40) rfl))) (ty := .int) (by decide)
      have F_usernameEnd_b250 : Fld Z h250 b250 "com/example/meyrin/meyrin/Url" "usernameEnd" "I" (.int (0 : Int32)) := D250 (Or.inr (hw _ (List.mem_of_getElem? (i := 42) rfl))) (ty := .int) (by decide)
      have F_hostStart_b250 : Fld Z h250 b250 "com/example/meyrin/meyrin/Url" "hostStart" "I" (.int (0 : Int32)) := D250 (Or.inr (hw _ (List.mem_of_getElem? (i := 44) rfl))) (ty := .int) (by decide)
      have F_hostEnd_b250 : Fld Z h250 b250 "com/example/meyrin/meyrin/Url" "hostEnd" "I" (.int (0 : Int32)) := D250 (Or.inr (hw _ (List.mem_of_getElem? (i := 46) rfl))) (ty := .int) (by decide)
      have F_port_b250 : Fld Z h250 b250 "com/example/meyrin/meyrin/Url" "port" "I" (.int (0 : Int32)) := D250 (Or.inr (hw _ (List.mem_of_getElem? (i := 48) rfl))) (ty := .int) (by decide)
      have F_pathStart_b250 : Fld Z h250 b250 "com/example/meyrin/meyrin/Url" "pathStart" "I" (.int (0 : Int32)) := D250 (Or.inr (hw _ (List.mem_of_getElem? (i := 50) rfl))) (ty := .int) (by decide)
      have F_pathEnd_b250 : Fld Z h250 b250 "com/example/meyrin/meyrin/Url" "pathEnd" "I" (.int (0 : Int32)) := D250 (Or.inr (hw _ (List.mem_of_getElem? (i := 52) rfl))) (ty := .int) (by decide)
      have F_queryEnd_b250 : Fld Z h250 b250 "com/example/meyrin/meyrin/Url" "queryEnd" "I" (.int (0 : Int32)) := D250 (Or.inr (hw _ (List.mem_of_getElem? (i := 54) rfl))) (ty := .int) (by decide)
      have pre250 : ∀ t, Steps p.tables e below (T250.setTop (mkF m 441 #[.val (.int p1), .val (.int p2), .val (.int p3), .val (.ref b2), .val (.int v95_0), .val (.int (1 : Int32)), .val (.int (if (0 : Int32) < v190_0 then ((4 : Int32) + v190_0) else (4 : Int32))), .val (.int hs), .val (.int (hs + hh)), .val (.int (-1 : Int32)), .val (.int (hs + hh)), .val (.int (hs + hh)), .val (.int hh), .val (.int v190_0), .val (.int v192_0), .unset] [(.ref b250)])) t → Steps p.tables e below (s₁.setTop (entryFrame m #[(.int p1), (.int p2), (.int p3)] maxLocals)) t := fun t kt => pre249 t (st250 _ kt)
      have pre253 : ∀ t, Steps p.tables e below (T250.setTop (mkF m 442 #[.val (.int p1), .val (.int p2), .val (.int p3), .val (.ref b2), .val (.int v95_0), .val (.int (1 : Int32)), .val (.int (if (0 : Int32) < v190_0 then ((4 : Int32) + v190_0) else (4 : Int32))), .val (.int hs), .val (.int (hs + hh)), .val (.int (-1 : Int32)), .val (.int (hs + hh)), .val (.int (hs + hh)), .val (.int hh), .val (.int v190_0), .val (.int v192_0), .unset] [(.ref b250), (.ref b250)])) t → Steps p.tables e below (s₁.setTop (entryFrame m #[(.int p1), (.int p2), (.int p3)] maxLocals)) t := by
        intro t kt
        refine pre250 t ?_
        show Steps p.tables e below (T250.setTop (mkF m 441 #[.val (.int p1), .val (.int p2), .val (.int p3), .val (.ref b2), .val (.int v95_0), .val (.int (1 : Int32)), .val (.int (if (0 : Int32) < v190_0 then ((4 : Int32) + v190_0) else (4 : Int32))), .val (.int hs), .val (.int (hs + hh)), .val (.int (-1 : Int32)), .val (.int (hs + hh)), .val (.int (hs + hh)), .val (.int hh), .val (.int v190_0), .val (.int v192_0), .unset] [(.ref b250)])) _
        refine XS.dup X250.here hx rfl (hb hby at_441) rfl rfl ?_
        exact kt
      obtain ⟨T254, h254, X254, e254, E254, A254, D254, -, st254⟩ := newO X250 hx hZ hown (hw _ (List.mem_of_getElem? (i := 4) rfl)) (hw _ (List.mem_of_getElem? (i := 5) rfl)) (hw _ (List.mem_of_getElem? (i := 6) rfl)) e250 (g := (mkF m 442 #[.val (.int p1), .val (.int p2), .val (.int p3), .val (.ref b2), .val (.int v95_0), .val (.int (1 : Int32)), .val (.int (if (0 : Int32) < v190_0 then ((4 : Int32) + v190_0) else (4 : Int32))), .val (.int hs), .val (.int (hs + hh)), .val (.int (-1 : Int32)), .val (.int (hs + hh)), .val (.int (hs + hh)), .val (.int hh), .val (.int v190_0), .val (.int v192_0), .unset] [(.ref b250), (.ref b250)])) rfl (hb hby at_442) (by decide) (by decide)
      obtain ⟨b254, g254⟩ : ∃ z, z = h250.size := ⟨_, rfl⟩
      have ne_b2_b254 : b2 ≠ b254 := Nat.ne_of_lt (Nat.lt_of_lt_of_le V0_252.lt (Nat.le_of_eq g254.symm))
      have ne_b250_b254 : b250 ≠ b254 := Nat.ne_of_lt (Nat.lt_of_lt_of_le A250.lt (Nat.le_of_eq g254.symm))
      have g_b254 : n0 ≤ b254 := Nat.le_trans Z250 (Nat.le_of_eq g254.symm)
      have sz_b254 : h0.size ≤ b254 := Nat.le_trans K250.1 (Nat.le_of_eq g254.symm)
      rw [← g254] at A254 D254 st254
      have K254 : Keep h0 h254 [] := K250.ext E254
      have Z254 : n0 ≤ h254.size := Nat.le_trans Z250 E254.1
      have SCS_255 := SCS_251.ext E254
      have V0_256 := V0_252.ext E254
      have A250_257 := A250.ext E254
      have F_href_b250_258 := F_href_b250.ext E254
      have F_schemeEnd_b250_259 := F_schemeEnd_b250.ext E254
      have F_usernameEnd_b250_260 := F_usernameEnd_b250.ext E254
      have F_hostStart_b250_261 := F_hostStart_b250.ext E254
      have F_hostEnd_b250_262 := F_hostEnd_b250.ext E254
      have F_port_b250_263 := F_port_b250.ext E254
      have F_pathStart_b250_264 := F_pathStart_b250.ext E254
      have F_pathEnd_b250_265 := F_pathEnd_b250.ext E254
      have F_queryEnd_b250_266 := F_queryEnd_b250.ext E254
      have F_coder_b254 : Fld Z h254 b254 "java/lang/String" "coder" "B" (.int (0 : Int32)) := D254 (Or.inr (hw _ (List.mem_of_getElem? (i := 30) rfl))) (ty := .byte) (by decide)
      have F_value_b254 : Fld Z h254 b254 "java/lang/String" "value" "[B" .null := D254 (Or.inr (hw _ (List.mem_of_getElem? (i := 32) rfl))) (ty := (.array .byte)) (by decide)
      have pre254 : ∀ t, Steps p.tables e below (T254.setTop (mkF m 445 #[.val (.int p1), .val (.int p2), .val (.int p3), .val (.ref b2), .val (.int v95_0), .val (.int (1 : Int32)), .val (.int (if (0 : Int32) < v190_0 then ((4 : Int32) + v190_0) else (4 : Int32))), .val (.int hs), .val (.int (hs + hh)), .val (.int (-1 : Int32)), .val (.int (hs + hh)), .val (.int (hs + hh)), .val (.int hh), .val (.int v190_0), .val (.int v192_0), .unset] [(.ref b254), (.ref b250), (.ref b250)])) t → Steps p.tables e below (s₁.setTop (entryFrame m #[(.int p1), (.int p2), (.int p3)] maxLocals)) t := fun t kt => pre253 t (st254 _ kt)
      have pre267 : ∀ t, Steps p.tables e below (T254.setTop (mkF m 447 #[.val (.int p1), .val (.int p2), .val (.int p3), .val (.ref b2), .val (.int v95_0), .val (.int (1 : Int32)), .val (.int (if (0 : Int32) < v190_0 then ((4 : Int32) + v190_0) else (4 : Int32))), .val (.int hs), .val (.int (hs + hh)), .val (.int (-1 : Int32)), .val (.int (hs + hh)), .val (.int (hs + hh)), .val (.int hh), .val (.int v190_0), .val (.int v192_0), .unset] [(.ref b2), (.ref b254), (.ref b254), (.ref b250), (.ref b250)])) t → Steps p.tables e below (s₁.setTop (entryFrame m #[(.int p1), (.int p2), (.int p3)] maxLocals)) t := by
        intro t kt
        refine pre254 t ?_
        show Steps p.tables e below (T254.setTop (mkF m 445 #[.val (.int p1), .val (.int p2), .val (.int p3), .val (.ref b2), .val (.int v95_0), .val (.int (1 : Int32)), .val (.int (if (0 : Int32) < v190_0 then ((4 : Int32) + v190_0) else (4 : Int32))), .val (.int hs), .val (.int (hs + hh)), .val (.int (-1 : Int32)), .val (.int (hs + hh)), .val (.int (hs + hh)), .val (.int hh), .val (.int v190_0), .val (.int v192_0), .unset] [(.ref b254), (.ref b250), (.ref b250)])) _
        refine XS.dup X254.here hx rfl (hb hby at_445) rfl rfl ?_
        show Steps p.tables e below (T254.setTop (mkF m 446 #[.val (.int p1), .val (.int p2), .val (.int p3), .val (.ref b2), .val (.int v95_0), .val (.int (1 : Int32)), .val (.int (if (0 : Int32) < v190_0 then ((4 : Int32) + v190_0) else (4 : Int32))), .val (.int hs), .val (.int (hs + hh)), .val (.int (-1 : Int32)), .val (.int (hs + hh)), .val (.int (hs + hh)), .val (.int hh), .val (.int v190_0), .val (.int v192_0), .unset] [(.ref b254), (.ref b254), (.ref b250), (.ref b250)])) _
        refine XS.aloadN X254.here hx rfl (hb hby at_446) rfl rfl ?_
        exact kt
      obtain ⟨cs268, ecs268, hlen268, hcs268⟩ := ok246
      have VS268 := V0_256
      rw [ecs268] at VS268
      obtain ⟨_, _, ⟨T268, L268, k268, n268⟩, -, X268, ⟨Lc268, hQ268, l268, y268, z268⟩, st268⟩ := X254.specialBack hx (y := (⟨"java/lang/String", "<init>", "([C)V"⟩ : MethodName)) rfl hown (mvT hZ (hw _ (List.mem_of_getElem? (i := 7) rfl))) (mvT hZ (hw _ (List.mem_of_getElem? (i := 8) rfl))) (mvT hZ (hw _ (List.mem_of_getElem? (i := 9) rfl))) (by decide) (StrChars.Road.backV (W := 3) hZ hws (kI := 4) (hw _ (List.mem_of_getElem? (i := 5) rfl)) (cs := cs268) (bs := cs268.map (fun c => c.toInt8.toInt32)) (n := 20) g_b254 Z254 A254 F_value_b254 F_coder_b254 VS268 SCS_255 hCS hlen268 rfl (by decide) (by decide) hcs268 rfl (by decide) (by decide)) (g := (mkF m 447 #[.val (.int p1), .val (.int p2), .val (.int p3), .val (.ref b2), .val (.int v95_0), .val (.int (1 : Int32)), .val (.int (if (0 : Int32) < v190_0 then ((4 : Int32) + v190_0) else (4 : Int32))), .val (.int hs), .val (.int (hs + hh)), .val (.int (-1 : Int32)), .val (.int (hs + hh)), .val (.int (hs + hh)), .val (.int hh), .val (.int v190_0), .val (.int v192_0), .unset] [(.ref b2), (.ref b254), (.ref b254), (.ref b250), (.ref b250)])) rfl (by rw [hml]; rfl) (Steps.refl _) (a := b254) (argsL := [(.ref b2)]) (rest := [(.ref b254), (.ref b250), (.ref b250)]) (lenOf pd_0 rfl) rfl (by show 2 * 0 + _ ≤ _; exact Nat.le_of_eq rfl) (hb hby at_447) (fun _ _ => ⟨rfl, e254, (by decide : 3 + 1 ≤ _), (by decide : 33 + 20 ≤ _)⟩)
      dsimp only [Pt.U, Pt.locs, Pt.cells, Pt.slots] at X268 l268 y268 z268 st268 hQ268
      subst l268 y268 z268
      obtain ⟨rfl, N268q, KC268, EQ268, CQ268, tq268, kbq268, gq268, gr268, gs268, FQ268, VQ268⟩ := hQ268
      have N268 := Fr.app N245 N268q
      have Z268 : n0 ≤ T268.heap.size := Nat.le_trans Z254 KC268.1
      have K268 : Keep h0 T268.heap [] := K254.trans KC268 (allS (Or.inr sz_b254) all0)
      have SCS_269 := own_stak SCS_255 KC268 (nsS A254.nostat ns0)
      have V0_270 := V0_256.keep KC268 (ninS ne_b2_b254 nin0)
      have A250_271 := A250_257.keep KC268
      have F_href_b250_272 := F_href_b250_258.keep KC268 (ninS ne_b250_b254 nin0)
      have F_schemeEnd_b250_273 := F_schemeEnd_b250_259.keep KC268 (ninS ne_b250_b254 nin0)
      have F_usernameEnd_b250_274 := F_usernameEnd_b250_260.keep KC268 (ninS ne_b250_b254 nin0)
      have F_hostStart_b250_275 := F_hostStart_b250_261.keep KC268 (ninS ne_b250_b254 nin0)
      have F_hostEnd_b250_276 := F_hostEnd_b250_262.keep KC268 (ninS ne_b250_b254 nin0)
      have F_port_b250_277 := F_port_b250_263.keep KC268 (ninS ne_b250_b254 nin0)
      have F_pathStart_b250_278 := F_pathStart_b250_264.keep KC268 (ninS ne_b250_b254 nin0)
      have F_pathEnd_b250_279 := F_pathEnd_b250_265.keep KC268 (ninS ne_b250_b254 nin0)
      have F_queryEnd_b250_280 := F_queryEnd_b250_266.keep KC268 (ninS ne_b250_b254 nin0)
      have A254_281 := A254.keep KC268
      have pre268 : ∀ t, Steps p.tables e below (T268.setTop (mkF m 450 #[.val (.int p1), .val (.int p2), .val (.int p3), .val (.ref b2), .val (.int v95_0), .val (.int (1 : Int32)), .val (.int (if (0 : Int32) < v190_0 then ((4 : Int32) + v190_0) else (4 : Int32))), .val (.int hs), .val (.int (hs + hh)), .val (.int (-1 : Int32)), .val (.int (hs + hh)), .val (.int (hs + hh)), .val (.int hh), .val (.int v190_0), .val (.int v192_0), .unset] [(.ref b254), (.ref b250), (.ref b250)])) t → Steps p.tables e below (s₁.setTop (entryFrame m #[(.int p1), (.int p2), (.int p3)] maxLocals)) t := fun t kt => pre267 t (st268.trans kt)
      have pre284 : ∀ t, Steps p.tables e below (T268.setTop (mkF m 466 #[.val (.int p1), .val (.int p2), .val (.int p3), .val (.ref b2), .val (.int v95_0), .val (.int (1 : Int32)), .val (.int (if (0 : Int32) < v190_0 then ((4 : Int32) + v190_0) else (4 : Int32))), .val (.int hs), .val (.int (hs + hh)), .val (.int (-1 : Int32)), .val (.int (hs + hh)), .val (.int (hs + hh)), .val (.int hh), .val (.int v190_0), .val (.int v192_0), .unset] [(.int (20 : Int32)), (.int (20 : Int32)), (.int (hs + hh)), (.int (-1 : Int32)), (.int (hs + hh)), (.int hs), (.int (if (0 : Int32) < v190_0 then ((4 : Int32) + v190_0) else (4 : Int32))), (.int (1 : Int32)), (.ref b254), (.ref b250), (.ref b250)])) t → Steps p.tables e below (s₁.setTop (entryFrame m #[(.int p1), (.int p2), (.int p3)] maxLocals)) t := by
        intro t kt
        refine pre268 t ?_
        show Steps p.tables e below (T268.setTop (mkF m 450 #[.val (.int p1), .val (.int p2), .val (.int p3), .val (.ref b2), .val (.int v95_0), .val (.int (1 : Int32)), .val (.int (if (0 : Int32) < v190_0 then ((4 : Int32) + v190_0) else (4 : Int32))), .val (.int hs), .val (.int (hs + hh)), .val (.int (-1 : Int32)), .val (.int (hs + hh)), .val (.int (hs + hh)), .val (.int hh), .val (.int v190_0), .val (.int v192_0), .unset] [(.ref b254), (.ref b250), (.ref b250)])) _
        refine XS.iload X268.here hx rfl (hb hby at_450) rfl ?_
        show Steps p.tables e below (T268.setTop (mkF m 452 #[.val (.int p1), .val (.int p2), .val (.int p3), .val (.ref b2), .val (.int v95_0), .val (.int (1 : Int32)), .val (.int (if (0 : Int32) < v190_0 then ((4 : Int32) + v190_0) else (4 : Int32))), .val (.int hs), .val (.int (hs + hh)), .val (.int (-1 : Int32)), .val (.int (hs + hh)), .val (.int (hs + hh)), .val (.int hh), .val (.int v190_0), .val (.int v192_0), .unset] [(.int (1 : Int32)), (.ref b254), (.ref b250), (.ref b250)])) _
        refine XS.iload X268.here hx rfl (hb hby at_452) rfl ?_
        show Steps p.tables e below (T268.setTop (mkF m 454 #[.val (.int p1), .val (.int p2), .val (.int p3), .val (.ref b2), .val (.int v95_0), .val (.int (1 : Int32)), .val (.int (if (0 : Int32) < v190_0 then ((4 : Int32) + v190_0) else (4 : Int32))), .val (.int hs), .val (.int (hs + hh)), .val (.int (-1 : Int32)), .val (.int (hs + hh)), .val (.int (hs + hh)), .val (.int hh), .val (.int v190_0), .val (.int v192_0), .unset] [(.int (if (0 : Int32) < v190_0 then ((4 : Int32) + v190_0) else (4 : Int32))), (.int (1 : Int32)), (.ref b254), (.ref b250), (.ref b250)])) _
        refine XS.iload X268.here hx rfl (hb hby at_454) rfl ?_
        show Steps p.tables e below (T268.setTop (mkF m 456 #[.val (.int p1), .val (.int p2), .val (.int p3), .val (.ref b2), .val (.int v95_0), .val (.int (1 : Int32)), .val (.int (if (0 : Int32) < v190_0 then ((4 : Int32) + v190_0) else (4 : Int32))), .val (.int hs), .val (.int (hs + hh)), .val (.int (-1 : Int32)), .val (.int (hs + hh)), .val (.int (hs + hh)), .val (.int hh), .val (.int v190_0), .val (.int v192_0), .unset] [(.int hs), (.int (if (0 : Int32) < v190_0 then ((4 : Int32) + v190_0) else (4 : Int32))), (.int (1 : Int32)), (.ref b254), (.ref b250), (.ref b250)])) _
        refine XS.iload X268.here hx rfl (hb hby at_456) rfl ?_
        show Steps p.tables e below (T268.setTop (mkF m 458 #[.val (.int p1), .val (.int p2), .val (.int p3), .val (.ref b2), .val (.int v95_0), .val (.int (1 : Int32)), .val (.int (if (0 : Int32) < v190_0 then ((4 : Int32) + v190_0) else (4 : Int32))), .val (.int hs), .val (.int (hs + hh)), .val (.int (-1 : Int32)), .val (.int (hs + hh)), .val (.int (hs + hh)), .val (.int hh), .val (.int v190_0), .val (.int v192_0), .unset] [(.int (hs + hh)), (.int hs), (.int (if (0 : Int32) < v190_0 then ((4 : Int32) + v190_0) else (4 : Int32))), (.int (1 : Int32)), (.ref b254), (.ref b250), (.ref b250)])) _
        refine XS.iload X268.here hx rfl (hb hby at_458) rfl ?_
        show Steps p.tables e below (T268.setTop (mkF m 460 #[.val (.int p1), .val (.int p2), .val (.int p3), .val (.ref b2), .val (.int v95_0), .val (.int (1 : Int32)), .val (.int (if (0 : Int32) < v190_0 then ((4 : Int32) + v190_0) else (4 : Int32))), .val (.int hs), .val (.int (hs + hh)), .val (.int (-1 : Int32)), .val (.int (hs + hh)), .val (.int (hs + hh)), .val (.int hh), .val (.int v190_0), .val (.int v192_0), .unset] [(.int (-1 : Int32)), (.int (hs + hh)), (.int hs), (.int (if (0 : Int32) < v190_0 then ((4 : Int32) + v190_0) else (4 : Int32))), (.int (1 : Int32)), (.ref b254), (.ref b250), (.ref b250)])) _
        refine XS.iload X268.here hx rfl (hb hby at_460) rfl ?_
        show Steps p.tables e below (T268.setTop (mkF m 462 #[.val (.int p1), .val (.int p2), .val (.int p3), .val (.ref b2), .val (.int v95_0), .val (.int (1 : Int32)), .val (.int (if (0 : Int32) < v190_0 then ((4 : Int32) + v190_0) else (4 : Int32))), .val (.int hs), .val (.int (hs + hh)), .val (.int (-1 : Int32)), .val (.int (hs + hh)), .val (.int (hs + hh)), .val (.int hh), .val (.int v190_0), .val (.int v192_0), .unset] [(.int (hs + hh)), (.int (-1 : Int32)), (.int (hs + hh)), (.int hs), (.int (if (0 : Int32) < v190_0 then ((4 : Int32) + v190_0) else (4 : Int32))), (.int (1 : Int32)), (.ref b254), (.ref b250), (.ref b250)])) _
        refine XS.bipush X268.here hx rfl (hb hby at_462) ?_
        show Steps p.tables e below (T268.setTop (mkF m 464 #[.val (.int p1), .val (.int p2), .val (.int p3), .val (.ref b2), .val (.int v95_0), .val (.int (1 : Int32)), .val (.int (if (0 : Int32) < v190_0 then ((4 : Int32) + v190_0) else (4 : Int32))), .val (.int hs), .val (.int (hs + hh)), .val (.int (-1 : Int32)), .val (.int (hs + hh)), .val (.int (hs + hh)), .val (.int hh), .val (.int v190_0), .val (.int v192_0), .unset] [(.int (20 : Int32)), (.int (hs + hh)), (.int (-1 : Int32)), (.int (hs + hh)), (.int hs), (.int (if (0 : Int32) < v190_0 then ((4 : Int32) + v190_0) else (4 : Int32))), (.int (1 : Int32)), (.ref b254), (.ref b250), (.ref b250)])) _
        refine XS.bipush X268.here hx rfl (hb hby at_464) ?_
        exact kt
      obtain ⟨_, _, ⟨T285, L285, k285, n285⟩, -, X285, ⟨Lc285, hQ285, l285, y285, z285⟩, st285⟩ := X268.specialBack hx (y := (⟨"com/example/meyrin/meyrin/Url", "<init>", "(Ljava/lang/String;IIIIIIII)V"⟩ : MethodName)) rfl hown (mvT hZ (hw _ (List.mem_of_getElem? (i := 33) rfl))) (mvT hZ (hw _ (List.mem_of_getElem? (i := 34) rfl))) (mvT hZ (hw _ (List.mem_of_getElem? (i := 35) rfl))) (by decide) (backOf (W := 1) (rm7 l Z a0 hw [] b250 b254 (1 : Int32) (if (0 : Int32) < v190_0 then ((4 : Int32) + v190_0) else (4 : Int32)) hs (hs + hh) (-1 : Int32) (hs + hh) (20 : Int32) (20 : Int32) T268.heap n0 Z268 A250_271 F_href_b250_272 F_schemeEnd_b250_273 F_usernameEnd_b250_274 F_hostStart_b250_275 F_hostEnd_b250_276 F_port_b250_277 F_pathStart_b250_278 F_pathEnd_b250_279 F_queryEnd_b250_280 g_b250) hZ (hw _ (List.mem_of_getElem? (i := 35) rfl)) (hw _ (List.mem_of_getElem? (i := 3) rfl)) (by decide) (by decide)) (g := (mkF m 466 #[.val (.int p1), .val (.int p2), .val (.int p3), .val (.ref b2), .val (.int v95_0), .val (.int (1 : Int32)), .val (.int (if (0 : Int32) < v190_0 then ((4 : Int32) + v190_0) else (4 : Int32))), .val (.int hs), .val (.int (hs + hh)), .val (.int (-1 : Int32)), .val (.int (hs + hh)), .val (.int (hs + hh)), .val (.int hh), .val (.int v190_0), .val (.int v192_0), .unset] [(.int (20 : Int32)), (.int (20 : Int32)), (.int (hs + hh)), (.int (-1 : Int32)), (.int (hs + hh)), (.int hs), (.int (if (0 : Int32) < v190_0 then ((4 : Int32) + v190_0) else (4 : Int32))), (.int (1 : Int32)), (.ref b254), (.ref b250), (.ref b250)])) rfl (by rw [hml]; rfl) (Steps.refl _) (a := b250) (argsL := [(.ref b254), (.int (1 : Int32)), (.int (if (0 : Int32) < v190_0 then ((4 : Int32) + v190_0) else (4 : Int32))), (.int hs), (.int (hs + hh)), (.int (-1 : Int32)), (.int (hs + hh)), (.int (20 : Int32)), (.int (20 : Int32))]) (rest := [(.ref b250)]) (lenOf pd_1 rfl) rfl (by show 2 * 0 + _ ≤ _; exact Nat.le_of_eq rfl) (hb hby at_466) (fun _ _ => ⟨rfl, rfl, (by decide : 4 + 0 ≤ _), (by decide : 53 + 0 ≤ _)⟩)
      dsimp only [Pt.U, Pt.locs, Pt.cells, Pt.slots] at X285 l285 y285 z285 st285 hQ285
      subst l285 y285 z285
      obtain ⟨rfl, N285q, KC285, P285_0, P285_1, P285_2, P285_3⟩ := hQ285
      have N285 := Fr.app N268 N285q
      have Z285 : n0 ≤ T285.heap.size := Nat.le_trans Z268 KC285.1
      have K285 : Keep h0 T285.heap [] := K268.trans KC285 (allS (Or.inr sz_b250) all0)
      have SCS_286 := own_stak SCS_269 KC285 (nsS A250_271.nostat ns0)
      have V0_287 := V0_270.keep KC285 (ninS ne_b2_b250 nin0)
      have A250_288 := A250_271.keep KC285
      have A254_298 := A254_281.keep KC285
      have E_b250_285 : Exa Z T285.heap b250 "com/example/meyrin/meyrin/Url" := P285_0
      have F_hostEnd_b250_285 : Fld Z T285.heap b250 "com/example/meyrin/meyrin/Url" "hostEnd" "I" (.int (hs + hh)) := P285_1
      have F_port_b250_285 : Fld Z T285.heap b250 "com/example/meyrin/meyrin/Url" "port" "I" (.int (-1 : Int32)) := P285_2
      have F_pathStart_b250_285 : Fld Z T285.heap b250 "com/example/meyrin/meyrin/Url" "pathStart" "I" (.int (hs + hh)) := P285_3
      have pre285 : ∀ t, Steps p.tables e below (T285.setTop (mkF m 469 #[.val (.int p1), .val (.int p2), .val (.int p3), .val (.ref b2), .val (.int v95_0), .val (.int (1 : Int32)), .val (.int (if (0 : Int32) < v190_0 then ((4 : Int32) + v190_0) else (4 : Int32))), .val (.int hs), .val (.int (hs + hh)), .val (.int (-1 : Int32)), .val (.int (hs + hh)), .val (.int (hs + hh)), .val (.int hh), .val (.int v190_0), .val (.int v192_0), .unset] [(.ref b250)])) t → Steps p.tables e below (s₁.setTop (entryFrame m #[(.int p1), (.int p2), (.int p3)] maxLocals)) t := fun t kt => pre284 t (st285.trans kt)
      have pre299 : ∀ t, Steps p.tables e below (T285.setTop (mkF m 473 #[.val (.int p1), .val (.int p2), .val (.int p3), .val (.ref b2), .val (.int v95_0), .val (.int (1 : Int32)), .val (.int (if (0 : Int32) < v190_0 then ((4 : Int32) + v190_0) else (4 : Int32))), .val (.int hs), .val (.int (hs + hh)), .val (.int (-1 : Int32)), .val (.int (hs + hh)), .val (.int (hs + hh)), .val (.ref b250), .val (.int v190_0), .val (.int v192_0), .unset] [(.ref b250)])) t → Steps p.tables e below (s₁.setTop (entryFrame m #[(.int p1), (.int p2), (.int p3)] maxLocals)) t := by
        intro t kt
        refine pre285 t ?_
        show Steps p.tables e below (T285.setTop (mkF m 469 #[.val (.int p1), .val (.int p2), .val (.int p3), .val (.ref b2), .val (.int v95_0), .val (.int (1 : Int32)), .val (.int (if (0 : Int32) < v190_0 then ((4 : Int32) + v190_0) else (4 : Int32))), .val (.int hs), .val (.int (hs + hh)), .val (.int (-1 : Int32)), .val (.int (hs + hh)), .val (.int (hs + hh)), .val (.int hh), .val (.int v190_0), .val (.int v192_0), .unset] [(.ref b250)])) _
        refine XS.astore X285.here hx rfl (hb hby at_469) rfl rfl (l' := #[.val (.int p1), .val (.int p2), .val (.int p3), .val (.ref b2), .val (.int v95_0), .val (.int (1 : Int32)), .val (.int (if (0 : Int32) < v190_0 then ((4 : Int32) + v190_0) else (4 : Int32))), .val (.int hs), .val (.int (hs + hh)), .val (.int (-1 : Int32)), .val (.int (hs + hh)), .val (.int (hs + hh)), .val (.ref b250), .val (.int v190_0), .val (.int v192_0), .unset]) rfl ?_
        show Steps p.tables e below (T285.setTop (mkF m 471 #[.val (.int p1), .val (.int p2), .val (.int p3), .val (.ref b2), .val (.int v95_0), .val (.int (1 : Int32)), .val (.int (if (0 : Int32) < v190_0 then ((4 : Int32) + v190_0) else (4 : Int32))), .val (.int hs), .val (.int (hs + hh)), .val (.int (-1 : Int32)), .val (.int (hs + hh)), .val (.int (hs + hh)), .val (.ref b250), .val (.int v190_0), .val (.int v192_0), .unset] [])) _
        refine XS.aload X285.here hx rfl (hb hby at_471) rfl rfl ?_
        exact kt
      obtain ⟨cq300, kq300, q300a, q300b, q300c⟩ := isOf hZ rfl E_b250_285
      obtain ⟨_, _, ⟨T300, L300, k300, n300⟩, -, X300, ⟨Lc300, hQ300, l300, y300, z300⟩, st300⟩ := X285.virtualBack hx (y := (⟨"com/example/meyrin/meyrin/Url", "authorityEnd", "()I"⟩ : MethodName)) (z := (⟨"com/example/meyrin/meyrin/Url", "authorityEnd", "()I"⟩ : MethodName)) hown (mvT hZ (hw _ (List.mem_of_getElem? (i := 55) rfl))) (mvT hZ (hw _ (List.mem_of_getElem? (i := 56) rfl))) (notFace_of_selects (args := #[]) (mvT hZ (hw _ (List.mem_of_getElem? (i := 58) rfl)))) (mvT hZ (hw _ (List.mem_of_getElem? (i := 58) rfl))) (mvT hZ (hw _ (List.mem_of_getElem? (i := 57) rfl))) (by decide) (backOf (W := 0) (rm8 l Z a0 hw [] b250 (-1 : Int32) (hs + hh) (hs + hh) T285.heap n0 Z285 F_port_b250_285 F_hostEnd_b250_285 F_pathStart_b250_285) hZ (hw _ (List.mem_of_getElem? (i := 59) rfl)) (hw _ (List.mem_of_getElem? (i := 3) rfl)) (by decide) (by decide)) q300a q300c (g := (mkF m 473 #[.val (.int p1), .val (.int p2), .val (.int p3), .val (.ref b2), .val (.int v95_0), .val (.int (1 : Int32)), .val (.int (if (0 : Int32) < v190_0 then ((4 : Int32) + v190_0) else (4 : Int32))), .val (.int hs), .val (.int (hs + hh)), .val (.int (-1 : Int32)), .val (.int (hs + hh)), .val (.int (hs + hh)), .val (.ref b250), .val (.int v190_0), .val (.int v192_0), .unset] [(.ref b250)])) rfl (by rw [hml]; rfl) (Steps.refl _) (argsL := []) (rest := []) (lenOf pd_2 rfl) rfl (by show 2 * 0 + _ ≤ _; exact Nat.le_of_eq rfl) (hb hby at_473) (fun _ _ => ⟨rfl, rfl, (by decide : 4 + 0 ≤ _), (by decide : 53 + 0 ≤ _)⟩)
      dsimp only [Pt.U, Pt.locs, Pt.cells, Pt.slots] at X300 l300 y300 z300 st300 hQ300
      subst l300 y300 z300
      obtain ⟨rfl, N300q, e300⟩ := hQ300
      have N300 := Fr.app N285 N300q
      have pre300 : ∀ t, Steps p.tables e below (T300.setTop (mkF m 476 #[.val (.int p1), .val (.int p2), .val (.int p3), .val (.ref b2), .val (.int v95_0), .val (.int (1 : Int32)), .val (.int (if (0 : Int32) < v190_0 then ((4 : Int32) + v190_0) else (4 : Int32))), .val (.int hs), .val (.int (hs + hh)), .val (.int (-1 : Int32)), .val (.int (hs + hh)), .val (.int (hs + hh)), .val (.ref b250), .val (.int v190_0), .val (.int v192_0), .unset] [(.int (if (-1 : Int32) < (0 : Int32) then (hs + hh) else (hs + hh)))])) t → Steps p.tables e below (s₁.setTop (entryFrame m #[(.int p1), (.int p2), (.int p3)] maxLocals)) t := fun t kt => pre299 t (st300.trans kt)
      have pre301 : ∀ t, Steps p.tables e below (T300.setTop (mkF m 478 #[.val (.int p1), .val (.int p2), .val (.int p3), .val (.ref b2), .val (.int v95_0), .val (.int (1 : Int32)), .val (.int (if (0 : Int32) < v190_0 then ((4 : Int32) + v190_0) else (4 : Int32))), .val (.int hs), .val (.int (hs + hh)), .val (.int (-1 : Int32)), .val (.int (hs + hh)), .val (.int (hs + hh)), .val (.ref b250), .val (.int v190_0), .val (.int v192_0), .unset] [(.int (hs + hh)), (.int (if (-1 : Int32) < (0 : Int32) then (hs + hh) else (hs + hh)))])) t → Steps p.tables e below (s₁.setTop (entryFrame m #[(.int p1), (.int p2), (.int p3)] maxLocals)) t := by
        intro t kt
        refine pre300 t ?_
        show Steps p.tables e below (T300.setTop (mkF m 476 #[.val (.int p1), .val (.int p2), .val (.int p3), .val (.ref b2), .val (.int v95_0), .val (.int (1 : Int32)), .val (.int (if (0 : Int32) < v190_0 then ((4 : Int32) + v190_0) else (4 : Int32))), .val (.int hs), .val (.int (hs + hh)), .val (.int (-1 : Int32)), .val (.int (hs + hh)), .val (.int (hs + hh)), .val (.ref b250), .val (.int v190_0), .val (.int v192_0), .unset] [(.int (if (-1 : Int32) < (0 : Int32) then (hs + hh) else (hs + hh)))])) _
        refine XS.iload X300.here hx rfl (hb hby at_476) rfl ?_
        exact kt
      obtain ⟨v302_0, hv302_0, pre302⟩ : ∃ (v302_0 : Int32), v302_0 = (if (if (-1 : Int32) < (0 : Int32) then (hs + hh) else (hs + hh)) = (hs + hh) then (1 : Int32) else (0 : Int32)) ∧ ∀ t, Steps p.tables e below (T300.setTop (mkF m 486 #[.val (.int p1), .val (.int p2), .val (.int p3), .val (.ref b2), .val (.int v95_0), .val (.int (1 : Int32)), .val (.int (if (0 : Int32) < v190_0 then ((4 : Int32) + v190_0) else (4 : Int32))), .val (.int hs), .val (.int (hs + hh)), .val (.int (-1 : Int32)), .val (.int (hs + hh)), .val (.int (hs + hh)), .val (.ref b250), .val (.int v190_0), .val (.int v192_0), .unset] [(.int v302_0)])) t → Steps p.tables e below (s₁.setTop (entryFrame m #[(.int p1), (.int p2), (.int p3)] maxLocals)) t := by
        refine ⟨_, rfl, ?_⟩
        intro t kt
        refine pre301 t ?_
        show Steps p.tables e below (T300.setTop (mkF m 478 #[.val (.int p1), .val (.int p2), .val (.int p3), .val (.ref b2), .val (.int v95_0), .val (.int (1 : Int32)), .val (.int (if (0 : Int32) < v190_0 then ((4 : Int32) + v190_0) else (4 : Int32))), .val (.int hs), .val (.int (hs + hh)), .val (.int (-1 : Int32)), .val (.int (hs + hh)), .val (.int (hs + hh)), .val (.ref b250), .val (.int v190_0), .val (.int v192_0), .unset] [(.int (hs + hh)), (.int (if (-1 : Int32) < (0 : Int32) then (hs + hh) else (hs + hh)))])) _
        by_cases hc478 : (if (-1 : Int32) < (0 : Int32) then (hs + hh) else (hs + hh)) = (hs + hh)
        · (try simp only [if_pos hc478] at kt)
          refine XS.icmpNo X300.here hx rfl (hb hby at_478) rfl (teq hc478).2 ?_
          show Steps p.tables e below (T300.setTop (mkF m 481 #[.val (.int p1), .val (.int p2), .val (.int p3), .val (.ref b2), .val (.int v95_0), .val (.int (1 : Int32)), .val (.int (if (0 : Int32) < v190_0 then ((4 : Int32) + v190_0) else (4 : Int32))), .val (.int hs), .val (.int (hs + hh)), .val (.int (-1 : Int32)), .val (.int (hs + hh)), .val (.int (hs + hh)), .val (.ref b250), .val (.int v190_0), .val (.int v192_0), .unset] [])) _
          refine XS.iconst X300.here hx rfl (hb hby at_481) ?_
          show Steps p.tables e below (T300.setTop (mkF m 482 #[.val (.int p1), .val (.int p2), .val (.int p3), .val (.ref b2), .val (.int v95_0), .val (.int (1 : Int32)), .val (.int (if (0 : Int32) < v190_0 then ((4 : Int32) + v190_0) else (4 : Int32))), .val (.int hs), .val (.int (hs + hh)), .val (.int (-1 : Int32)), .val (.int (hs + hh)), .val (.int (hs + hh)), .val (.ref b250), .val (.int v190_0), .val (.int v192_0), .unset] [(.int (1 : Int32))])) _
          refine XS.goto X300.here hx rfl (pc0 := 482) (pc' := 486) rfl (hb hby at_482) (by decide) (by decide) ?_
          exact kt
        · (try simp only [if_neg hc478] at kt)
          refine XS.icmpYes X300.here hx rfl (pc0 := 478) (pc' := 485) rfl (hb hby at_478) rfl (feq hc478).2 (by decide) (by decide) ?_
          show Steps p.tables e below (T300.setTop (mkF m 485 #[.val (.int p1), .val (.int p2), .val (.int p3), .val (.ref b2), .val (.int v95_0), .val (.int (1 : Int32)), .val (.int (if (0 : Int32) < v190_0 then ((4 : Int32) + v190_0) else (4 : Int32))), .val (.int hs), .val (.int (hs + hh)), .val (.int (-1 : Int32)), .val (.int (hs + hh)), .val (.int (hs + hh)), .val (.ref b250), .val (.int v190_0), .val (.int v192_0), .unset] [])) _
          refine XS.iconst X300.here hx rfl (hb hby at_485) ?_
          exact kt
      have hfin : v302_0 = 1 := by
        rw [hv302_0]
        first | (rw [if_pos (if_pos (by decide))]; done) | (rw [if_pos (if_neg (own_pn p2))]; done)
      obtain ⟨fs, hr, hrun, hended, hW, hsame⟩ := X300.leave (v := some (.int (1 : Int32))) (fun h => by rw [Bd.returns] at h; cases h)
      refine ⟨_, _, pre302 _ ?_, hrun, hended, _, _, rfl, ?_, ⟨_, rfl⟩, hW, hsame.mono (by decide) (by decide)⟩
      · show Steps p.tables e below (T300.setTop (mkF m 486 #[.val (.int p1), .val (.int p2), .val (.int p3), .val (.ref b2), .val (.int v95_0), .val (.int (1 : Int32)), .val (.int (if (0 : Int32) < v190_0 then ((4 : Int32) + v190_0) else (4 : Int32))), .val (.int hs), .val (.int (hs + hh)), .val (.int (-1 : Int32)), .val (.int (hs + hh)), .val (.int (hs + hh)), .val (.ref b250), .val (.int v190_0), .val (.int v192_0), .unset] [(.int v302_0)])) _
        rw [hfin]
        exact retN X300 hx (t := .boolean) Bd.returns (by simp) (hb hby at_486) hr
      · show Q0 n0 _ T300.heap _
        rw [e300]
        exact ⟨rfl, N300⟩
    · have pre303 : ∀ t, Steps p.tables e below (T234.setTop (mkF m 286 #[.val (.int p1), .val (.int p2), .val (.int p3), .val (.ref b2), .val (.int v95_0), .val (.int (1 : Int32)), .val (.int (if (0 : Int32) < v190_0 then ((4 : Int32) + v190_0) else (4 : Int32))), .val (.int hs), .val (.int (hs + hh)), .unset, .unset, .unset, .val (.int hh), .val (.int v190_0), .val (.int v192_0), .unset] [])) t → Steps p.tables e below (s₁.setTop (entryFrame m #[(.int p1), (.int p2), (.int p3)] maxLocals)) t := by
        intro t kt
        refine pre242 t ?_
        show Steps p.tables e below (T234.setTop (mkF m 283 #[.val (.int p1), .val (.int p2), .val (.int p3), .val (.ref b2), .val (.int v95_0), .val (.int (1 : Int32)), .val (.int (if (0 : Int32) < v190_0 then ((4 : Int32) + v190_0) else (4 : Int32))), .val (.int hs), .val (.int (hs + hh)), .unset, .unset, .unset, .val (.int hh), .val (.int v190_0), .val (.int v192_0), .unset] [(.int v192_0)])) _
        refine XS.ifNo X234.here hx rfl (hb hby at_283) rfl ((if0 _ _).trans (feq hc283).1) ?_
        exact kt
      have pre304 : ∀ t, Steps p.tables e below (T234.setTop (mkF m 297 #[.val (.int p1), .val (.int p2), .val (.int p3), .val (.ref b2), .val (.int v95_0), .val (.int (1 : Int32)), .val (.int (if (0 : Int32) < v190_0 then ((4 : Int32) + v190_0) else (4 : Int32))), .val (.int hs), .val (.int (hs + hh)), .val (.int ((p2 &&& (2147483647 : Int32)) % (65536 : Int32))), .unset, .unset, .val (.int hh), .val (.int v190_0), .val (.int v192_0), .unset] [(.int ((p2 &&& (2147483647 : Int32)) % (65536 : Int32)))])) t → Steps p.tables e below (s₁.setTop (entryFrame m #[(.int p1), (.int p2), (.int p3)] maxLocals)) t := by
        intro t kt
        refine pre303 t ?_
        show Steps p.tables e below (T234.setTop (mkF m 286 #[.val (.int p1), .val (.int p2), .val (.int p3), .val (.ref b2), .val (.int v95_0), .val (.int (1 : Int32)), .val (.int (if (0 : Int32) < v190_0 then ((4 : Int32) + v190_0) else (4 : Int32))), .val (.int hs), .val (.int (hs + hh)), .unset, .unset, .unset, .val (.int hh), .val (.int v190_0), .val (.int v192_0), .unset] [])) _
        refine XS.iloadN X234.here hx rfl (hb hby at_286) rfl ?_
        show Steps p.tables e below (T234.setTop (mkF m 287 #[.val (.int p1), .val (.int p2), .val (.int p3), .val (.ref b2), .val (.int v95_0), .val (.int (1 : Int32)), .val (.int (if (0 : Int32) < v190_0 then ((4 : Int32) + v190_0) else (4 : Int32))), .val (.int hs), .val (.int (hs + hh)), .unset, .unset, .unset, .val (.int hh), .val (.int v190_0), .val (.int v192_0), .unset] [(.int p2)])) _
        refine X234.ldcInt hx hown (mvT hZ (hw _ (List.mem_of_getElem? (i := 60) rfl))) (g := (mkF m 287 #[.val (.int p1), .val (.int p2), .val (.int p3), .val (.ref b2), .val (.int v95_0), .val (.int (1 : Int32)), .val (.int (if (0 : Int32) < v190_0 then ((4 : Int32) + v190_0) else (4 : Int32))), .val (.int hs), .val (.int (hs + hh)), .unset, .unset, .unset, .val (.int hh), .val (.int v190_0), .val (.int v192_0), .unset] [(.int p2)])) rfl (hb hby at_287) _ ?_
        show Steps p.tables e below (T234.setTop (mkF m 289 #[.val (.int p1), .val (.int p2), .val (.int p3), .val (.ref b2), .val (.int v95_0), .val (.int (1 : Int32)), .val (.int (if (0 : Int32) < v190_0 then ((4 : Int32) + v190_0) else (4 : Int32))), .val (.int hs), .val (.int (hs + hh)), .unset, .unset, .unset, .val (.int hh), .val (.int v190_0), .val (.int v192_0), .unset] [(.int (2147483647 : Int32)), (.int p2)])) _
        refine XS.iand X234.here hx rfl (hb hby at_289) rfl ?_
        show Steps p.tables e below (T234.setTop (mkF m 290 #[.val (.int p1), .val (.int p2), .val (.int p3), .val (.ref b2), .val (.int v95_0), .val (.int (1 : Int32)), .val (.int (if (0 : Int32) < v190_0 then ((4 : Int32) + v190_0) else (4 : Int32))), .val (.int hs), .val (.int (hs + hh)), .unset, .unset, .unset, .val (.int hh), .val (.int v190_0), .val (.int v192_0), .unset] [(.int (p2 &&& (2147483647 : Int32)))])) _
        refine X234.ldcInt hx hown (mvT hZ (hw _ (List.mem_of_getElem? (i := 61) rfl))) (g := (mkF m 290 #[.val (.int p1), .val (.int p2), .val (.int p3), .val (.ref b2), .val (.int v95_0), .val (.int (1 : Int32)), .val (.int (if (0 : Int32) < v190_0 then ((4 : Int32) + v190_0) else (4 : Int32))), .val (.int hs), .val (.int (hs + hh)), .unset, .unset, .unset, .val (.int hh), .val (.int v190_0), .val (.int v192_0), .unset] [(.int (p2 &&& (2147483647 : Int32)))])) rfl (hb hby at_290) _ ?_
        show Steps p.tables e below (T234.setTop (mkF m 292 #[.val (.int p1), .val (.int p2), .val (.int p3), .val (.ref b2), .val (.int v95_0), .val (.int (1 : Int32)), .val (.int (if (0 : Int32) < v190_0 then ((4 : Int32) + v190_0) else (4 : Int32))), .val (.int hs), .val (.int (hs + hh)), .unset, .unset, .unset, .val (.int hh), .val (.int v190_0), .val (.int v192_0), .unset] [(.int (65536 : Int32)), (.int (p2 &&& (2147483647 : Int32)))])) _
        refine iremM X234 hx rfl (hb hby at_292) rfl (by decide) ?_
        show Steps p.tables e below (T234.setTop (mkF m 293 #[.val (.int p1), .val (.int p2), .val (.int p3), .val (.ref b2), .val (.int v95_0), .val (.int (1 : Int32)), .val (.int (if (0 : Int32) < v190_0 then ((4 : Int32) + v190_0) else (4 : Int32))), .val (.int hs), .val (.int (hs + hh)), .unset, .unset, .unset, .val (.int hh), .val (.int v190_0), .val (.int v192_0), .unset] [(.int ((p2 &&& (2147483647 : Int32)) % (65536 : Int32)))])) _
        refine XS.istore X234.here hx rfl (hb hby at_293) rfl (l' := #[.val (.int p1), .val (.int p2), .val (.int p3), .val (.ref b2), .val (.int v95_0), .val (.int (1 : Int32)), .val (.int (if (0 : Int32) < v190_0 then ((4 : Int32) + v190_0) else (4 : Int32))), .val (.int hs), .val (.int (hs + hh)), .val (.int ((p2 &&& (2147483647 : Int32)) % (65536 : Int32))), .unset, .unset, .val (.int hh), .val (.int v190_0), .val (.int v192_0), .unset]) rfl ?_
        show Steps p.tables e below (T234.setTop (mkF m 295 #[.val (.int p1), .val (.int p2), .val (.int p3), .val (.ref b2), .val (.int v95_0), .val (.int (1 : Int32)), .val (.int (if (0 : Int32) < v190_0 then ((4 : Int32) + v190_0) else (4 : Int32))), .val (.int hs), .val (.int (hs + hh)), .val (.int ((p2 &&& (2147483647 : Int32)) % (65536 : Int32))), .unset, .unset, .val (.int hh), .val (.int v190_0), .val (.int v192_0), .unset] [])) _
        refine XS.iload X234.here hx rfl (hb hby at_295) rfl ?_
        exact kt
      obtain ⟨_, _, ⟨T305, L305, k305, n305⟩, -, X305, ⟨Lc305, hQ305, l305, y305, z305⟩, st305⟩ := Jvm.LawKit.callS X234 hx (y := (⟨"com/example/meyrin/meyrin/UrlAuthorityEndPinLaw", "digitCount", "(I)I"⟩ : MethodName)) hown (mvT hZ (hw _ (List.mem_of_getElem? (i := 62) rfl))) (mvT hZ (hw _ (List.mem_of_getElem? (i := 63) rfl))) (mvT hZ (hw _ (List.mem_of_getElem? (i := 64) rfl))) (mvT hZ (hw _ (List.mem_of_getElem? (i := 65) rfl))) (by decide) (backOf (W := 0) (rm9 l Z a0 hw [] ((p2 &&& (2147483647 : Int32)) % (65536 : Int32)) h234 n0) hZ (hw _ (List.mem_of_getElem? (i := 65) rfl)) (hw _ (List.mem_of_getElem? (i := 64) rfl)) (by decide) (by decide)) (g := (mkF m 297 #[.val (.int p1), .val (.int p2), .val (.int p3), .val (.ref b2), .val (.int v95_0), .val (.int (1 : Int32)), .val (.int (if (0 : Int32) < v190_0 then ((4 : Int32) + v190_0) else (4 : Int32))), .val (.int hs), .val (.int (hs + hh)), .val (.int ((p2 &&& (2147483647 : Int32)) % (65536 : Int32))), .unset, .unset, .val (.int hh), .val (.int v190_0), .val (.int v192_0), .unset] [(.int ((p2 &&& (2147483647 : Int32)) % (65536 : Int32)))])) rfl (by rw [hml]; rfl) (argsL := [(.int ((p2 &&& (2147483647 : Int32)) % (65536 : Int32)))]) (rest := []) (lenOf pd_3 rfl) rfl (by show 2 * 0 + _ ≤ _; exact Nat.le_of_eq rfl) (hb hby at_297) (fun _ _ => ⟨rfl, e234, (by decide : 1 + 0 ≤ _), (by decide : 20 + 0 ≤ _)⟩)
      dsimp only [Pt.U, Pt.locs, Pt.cells, Pt.slots] at X305 l305 y305 z305 st305 hQ305
      subst l305 y305 z305
      obtain ⟨rfl, N305q, e305⟩ := hQ305
      have N305 := Fr.app N234 N305q
      have pre305 : ∀ t, Steps p.tables e below (T305.setTop (mkF m 300 #[.val (.int p1), .val (.int p2), .val (.int p3), .val (.ref b2), .val (.int v95_0), .val (.int (1 : Int32)), .val (.int (if (0 : Int32) < v190_0 then ((4 : Int32) + v190_0) else (4 : Int32))), .val (.int hs), .val (.int (hs + hh)), .val (.int ((p2 &&& (2147483647 : Int32)) % (65536 : Int32))), .unset, .unset, .val (.int hh), .val (.int v190_0), .val (.int v192_0), .unset] [(.int (own_f9 ((p2 &&& (2147483647 : Int32)) % (65536 : Int32))))])) t → Steps p.tables e below (s₁.setTop (entryFrame m #[(.int p1), (.int p2), (.int p3)] maxLocals)) t := fun t kt => pre304 t (st305 _ kt)
      have pre306 : ∀ t, Steps p.tables e below (T305.setTop (mkF m 302 #[.val (.int p1), .val (.int p2), .val (.int p3), .val (.ref b2), .val (.int v95_0), .val (.int (1 : Int32)), .val (.int (if (0 : Int32) < v190_0 then ((4 : Int32) + v190_0) else (4 : Int32))), .val (.int hs), .val (.int (hs + hh)), .val (.int ((p2 &&& (2147483647 : Int32)) % (65536 : Int32))), .unset, .unset, .val (.int hh), .val (.int v190_0), .val (.int v192_0), .val (.int (own_f9 ((p2 &&& (2147483647 : Int32)) % (65536 : Int32))))] [])) t → Steps p.tables e below (s₁.setTop (entryFrame m #[(.int p1), (.int p2), (.int p3)] maxLocals)) t := by
        intro t kt
        refine pre305 t ?_
        show Steps p.tables e below (T305.setTop (mkF m 300 #[.val (.int p1), .val (.int p2), .val (.int p3), .val (.ref b2), .val (.int v95_0), .val (.int (1 : Int32)), .val (.int (if (0 : Int32) < v190_0 then ((4 : Int32) + v190_0) else (4 : Int32))), .val (.int hs), .val (.int (hs + hh)), .val (.int ((p2 &&& (2147483647 : Int32)) % (65536 : Int32))), .unset, .unset, .val (.int hh), .val (.int v190_0), .val (.int v192_0), .unset] [(.int (own_f9 ((p2 &&& (2147483647 : Int32)) % (65536 : Int32))))])) _
        refine XS.istore X305.here hx rfl (hb hby at_300) rfl (l' := #[.val (.int p1), .val (.int p2), .val (.int p3), .val (.ref b2), .val (.int v95_0), .val (.int (1 : Int32)), .val (.int (if (0 : Int32) < v190_0 then ((4 : Int32) + v190_0) else (4 : Int32))), .val (.int hs), .val (.int (hs + hh)), .val (.int ((p2 &&& (2147483647 : Int32)) % (65536 : Int32))), .unset, .unset, .val (.int hh), .val (.int v190_0), .val (.int v192_0), .val (.int (own_f9 ((p2 &&& (2147483647 : Int32)) % (65536 : Int32))))]) rfl ?_
        exact kt
      have bk := own_k ((p2 &&& (2147483647 : Int32)) % (65536 : Int32))
      have ehe1 : (((hs + hh) + (1 : Int32)) + (own_f9 ((p2 &&& (2147483647 : Int32)) % (65536 : Int32)))).toInt = hs.toInt + hh.toInt + 1 + ((own_f9 ((p2 &&& (2147483647 : Int32)) % (65536 : Int32)))).toInt := own_addI (own_addI ehe (show (1 : Int32).toInt = 1 by decide) (by omega) (by omega) (by omega) (by omega)) rfl (by omega) (by omega) (by omega) (by omega)
      have pre307 : ∀ t, Steps p.tables e below (T305.setTop (mkF m 307 #[.val (.int p1), .val (.int p2), .val (.int p3), .val (.ref b2), .val (.int v95_0), .val (.int (1 : Int32)), .val (.int (if (0 : Int32) < v190_0 then ((4 : Int32) + v190_0) else (4 : Int32))), .val (.int hs), .val (.int (hs + hh)), .val (.int ((p2 &&& (2147483647 : Int32)) % (65536 : Int32))), .unset, .unset, .val (.int hh), .val (.int v190_0), .val (.int v192_0), .val (.int (own_f9 ((p2 &&& (2147483647 : Int32)) % (65536 : Int32))))] [(.int (58 : Int32)), (.int (hs + hh)), (.ref b2)])) t → Steps p.tables e below (s₁.setTop (entryFrame m #[(.int p1), (.int p2), (.int p3)] maxLocals)) t := by
        intro t kt
        refine pre306 t ?_
        show Steps p.tables e below (T305.setTop (mkF m 302 #[.val (.int p1), .val (.int p2), .val (.int p3), .val (.ref b2), .val (.int v95_0), .val (.int (1 : Int32)), .val (.int (if (0 : Int32) < v190_0 then ((4 : Int32) + v190_0) else (4 : Int32))), .val (.int hs), .val (.int (hs + hh)), .val (.int ((p2 &&& (2147483647 : Int32)) % (65536 : Int32))), .unset, .unset, .val (.int hh), .val (.int v190_0), .val (.int v192_0), .val (.int (own_f9 ((p2 &&& (2147483647 : Int32)) % (65536 : Int32))))] [])) _
        refine XS.aloadN X305.here hx rfl (hb hby at_302) rfl rfl ?_
        show Steps p.tables e below (T305.setTop (mkF m 303 #[.val (.int p1), .val (.int p2), .val (.int p3), .val (.ref b2), .val (.int v95_0), .val (.int (1 : Int32)), .val (.int (if (0 : Int32) < v190_0 then ((4 : Int32) + v190_0) else (4 : Int32))), .val (.int hs), .val (.int (hs + hh)), .val (.int ((p2 &&& (2147483647 : Int32)) % (65536 : Int32))), .unset, .unset, .val (.int hh), .val (.int v190_0), .val (.int v192_0), .val (.int (own_f9 ((p2 &&& (2147483647 : Int32)) % (65536 : Int32))))] [(.ref b2)])) _
        refine XS.iload X305.here hx rfl (hb hby at_303) rfl ?_
        show Steps p.tables e below (T305.setTop (mkF m 305 #[.val (.int p1), .val (.int p2), .val (.int p3), .val (.ref b2), .val (.int v95_0), .val (.int (1 : Int32)), .val (.int (if (0 : Int32) < v190_0 then ((4 : Int32) + v190_0) else (4 : Int32))), .val (.int hs), .val (.int (hs + hh)), .val (.int ((p2 &&& (2147483647 : Int32)) % (65536 : Int32))), .unset, .unset, .val (.int hh), .val (.int v190_0), .val (.int v192_0), .val (.int (own_f9 ((p2 &&& (2147483647 : Int32)) % (65536 : Int32))))] [(.int (hs + hh)), (.ref b2)])) _
        refine XS.bipush X305.here hx rfl (hb hby at_305) ?_
        exact kt
      obtain ⟨cl308, Ar308, q308, S308, M308, H308, G308⟩ := (id V0_234)
      have ok309 : own_ok (vs234_0.set ((hs + hh)).toNatClampNeg (.int (nar .char (58 : Int32)))) := own_okset okvs234_0 _ (by decide)
      have hin308 : ¬ ((hs + hh) < 0 ∨ cl308.slots.size ≤ ((hs + hh)).toNatClampNeg) := inb_of S308 (own_in (by rw [ehe]; omega))
      obtain ⟨T308, h308, X308, e308, W308, st308⟩ := stC X305 hx hZ e305 Ar308 (j := (hs + hh)) hin308 (g := (mkF m 307 #[.val (.int p1), .val (.int p2), .val (.int p3), .val (.ref b2), .val (.int v95_0), .val (.int (1 : Int32)), .val (.int (if (0 : Int32) < v190_0 then ((4 : Int32) + v190_0) else (4 : Int32))), .val (.int hs), .val (.int (hs + hh)), .val (.int ((p2 &&& (2147483647 : Int32)) % (65536 : Int32))), .unset, .unset, .val (.int hh), .val (.int v190_0), .val (.int v192_0), .val (.int (own_f9 ((p2 &&& (2147483647 : Int32)) % (65536 : Int32))))] [(.int (58 : Int32)), (.int (hs + hh)), (.ref b2)])) rfl rfl (hb hby at_307)
      have V0_308 := Arv.set Ar308 q308 S308 M308 H308 G308 (fits_nar_char _) W308 ((hs + hh)).toNatClampNeg rfl (own_oklt okvs234_0 (own_in (by rw [ehe]; omega)))
      have N308 := Fr.snoc X308 N305 g_b2
      have K308 : Keep h0 h308 [] := K234.wr W308 (Or.inr sz_b2)
      have Z308 : n0 ≤ h308.size := Nat.le_trans Z234 (Keep.of_wr W308).1
      have SCS_310 := SCS_234.wr W308
      have pre308 : ∀ t, Steps p.tables e below (T308.setTop (mkF m 308 #[.val (.int p1), .val (.int p2), .val (.int p3), .val (.ref b2), .val (.int v95_0), .val (.int (1 : Int32)), .val (.int (if (0 : Int32) < v190_0 then ((4 : Int32) + v190_0) else (4 : Int32))), .val (.int hs), .val (.int (hs + hh)), .val (.int ((p2 &&& (2147483647 : Int32)) % (65536 : Int32))), .unset, .unset, .val (.int hh), .val (.int v190_0), .val (.int v192_0), .val (.int (own_f9 ((p2 &&& (2147483647 : Int32)) % (65536 : Int32))))] [])) t → Steps p.tables e below (s₁.setTop (entryFrame m #[(.int p1), (.int p2), (.int p3)] maxLocals)) t := fun t kt => pre307 t (st308 _ kt)
      have pre312 : ∀ t, Steps p.tables e below (T308.setTop (mkF m 320 #[.val (.int p1), .val (.int p2), .val (.int p3), .val (.ref b2), .val (.int v95_0), .val (.int (1 : Int32)), .val (.int (if (0 : Int32) < v190_0 then ((4 : Int32) + v190_0) else (4 : Int32))), .val (.int hs), .val (.int (hs + hh)), .val (.int ((p2 &&& (2147483647 : Int32)) % (65536 : Int32))), .unset, .unset, .val (.int hh), .val (.int v190_0), .val (.int v192_0), .val (.int (own_f9 ((p2 &&& (2147483647 : Int32)) % (65536 : Int32))))] [(.int (own_f9 ((p2 &&& (2147483647 : Int32)) % (65536 : Int32)))), (.int ((p2 &&& (2147483647 : Int32)) % (65536 : Int32))), (.int (((hs + hh) + (1 : Int32)) + (own_f9 ((p2 &&& (2147483647 : Int32)) % (65536 : Int32))))), (.ref b2)])) t → Steps p.tables e below (s₁.setTop (entryFrame m #[(.int p1), (.int p2), (.int p3)] maxLocals)) t := by
        intro t kt
        refine pre308 t ?_
        show Steps p.tables e below (T308.setTop (mkF m 308 #[.val (.int p1), .val (.int p2), .val (.int p3), .val (.ref b2), .val (.int v95_0), .val (.int (1 : Int32)), .val (.int (if (0 : Int32) < v190_0 then ((4 : Int32) + v190_0) else (4 : Int32))), .val (.int hs), .val (.int (hs + hh)), .val (.int ((p2 &&& (2147483647 : Int32)) % (65536 : Int32))), .unset, .unset, .val (.int hh), .val (.int v190_0), .val (.int v192_0), .val (.int (own_f9 ((p2 &&& (2147483647 : Int32)) % (65536 : Int32))))] [])) _
        refine XS.aloadN X308.here hx rfl (hb hby at_308) rfl rfl ?_
        show Steps p.tables e below (T308.setTop (mkF m 309 #[.val (.int p1), .val (.int p2), .val (.int p3), .val (.ref b2), .val (.int v95_0), .val (.int (1 : Int32)), .val (.int (if (0 : Int32) < v190_0 then ((4 : Int32) + v190_0) else (4 : Int32))), .val (.int hs), .val (.int (hs + hh)), .val (.int ((p2 &&& (2147483647 : Int32)) % (65536 : Int32))), .unset, .unset, .val (.int hh), .val (.int v190_0), .val (.int v192_0), .val (.int (own_f9 ((p2 &&& (2147483647 : Int32)) % (65536 : Int32))))] [(.ref b2)])) _
        refine XS.iload X308.here hx rfl (hb hby at_309) rfl ?_
        show Steps p.tables e below (T308.setTop (mkF m 311 #[.val (.int p1), .val (.int p2), .val (.int p3), .val (.ref b2), .val (.int v95_0), .val (.int (1 : Int32)), .val (.int (if (0 : Int32) < v190_0 then ((4 : Int32) + v190_0) else (4 : Int32))), .val (.int hs), .val (.int (hs + hh)), .val (.int ((p2 &&& (2147483647 : Int32)) % (65536 : Int32))), .unset, .unset, .val (.int hh), .val (.int v190_0), .val (.int v192_0), .val (.int (own_f9 ((p2 &&& (2147483647 : Int32)) % (65536 : Int32))))] [(.int (hs + hh)), (.ref b2)])) _
        refine XS.iconst X308.here hx rfl (hb hby at_311) ?_
        show Steps p.tables e below (T308.setTop (mkF m 312 #[.val (.int p1), .val (.int p2), .val (.int p3), .val (.ref b2), .val (.int v95_0), .val (.int (1 : Int32)), .val (.int (if (0 : Int32) < v190_0 then ((4 : Int32) + v190_0) else (4 : Int32))), .val (.int hs), .val (.int (hs + hh)), .val (.int ((p2 &&& (2147483647 : Int32)) % (65536 : Int32))), .unset, .unset, .val (.int hh), .val (.int v190_0), .val (.int v192_0), .val (.int (own_f9 ((p2 &&& (2147483647 : Int32)) % (65536 : Int32))))] [(.int (1 : Int32)), (.int (hs + hh)), (.ref b2)])) _
        refine XS.iadd X308.here hx rfl (hb hby at_312) rfl ?_
        show Steps p.tables e below (T308.setTop (mkF m 313 #[.val (.int p1), .val (.int p2), .val (.int p3), .val (.ref b2), .val (.int v95_0), .val (.int (1 : Int32)), .val (.int (if (0 : Int32) < v190_0 then ((4 : Int32) + v190_0) else (4 : Int32))), .val (.int hs), .val (.int (hs + hh)), .val (.int ((p2 &&& (2147483647 : Int32)) % (65536 : Int32))), .unset, .unset, .val (.int hh), .val (.int v190_0), .val (.int v192_0), .val (.int (own_f9 ((p2 &&& (2147483647 : Int32)) % (65536 : Int32))))] [(.int ((hs + hh) + (1 : Int32))), (.ref b2)])) _
        refine XS.iload X308.here hx rfl (hb hby at_313) rfl ?_
        show Steps p.tables e below (T308.setTop (mkF m 315 #[.val (.int p1), .val (.int p2), .val (.int p3), .val (.ref b2), .val (.int v95_0), .val (.int (1 : Int32)), .val (.int (if (0 : Int32) < v190_0 then ((4 : Int32) + v190_0) else (4 : Int32))), .val (.int hs), .val (.int (hs + hh)), .val (.int ((p2 &&& (2147483647 : Int32)) % (65536 : Int32))), .unset, .unset, .val (.int hh), .val (.int v190_0), .val (.int v192_0), .val (.int (own_f9 ((p2 &&& (2147483647 : Int32)) % (65536 : Int32))))] [(.int (own_f9 ((p2 &&& (2147483647 : Int32)) % (65536 : Int32)))), (.int ((hs + hh) + (1 : Int32))), (.ref b2)])) _
        refine XS.iadd X308.here hx rfl (hb hby at_315) rfl ?_
        show Steps p.tables e below (T308.setTop (mkF m 316 #[.val (.int p1), .val (.int p2), .val (.int p3), .val (.ref b2), .val (.int v95_0), .val (.int (1 : Int32)), .val (.int (if (0 : Int32) < v190_0 then ((4 : Int32) + v190_0) else (4 : Int32))), .val (.int hs), .val (.int (hs + hh)), .val (.int ((p2 &&& (2147483647 : Int32)) % (65536 : Int32))), .unset, .unset, .val (.int hh), .val (.int v190_0), .val (.int v192_0), .val (.int (own_f9 ((p2 &&& (2147483647 : Int32)) % (65536 : Int32))))] [(.int (((hs + hh) + (1 : Int32)) + (own_f9 ((p2 &&& (2147483647 : Int32)) % (65536 : Int32))))), (.ref b2)])) _
        refine XS.iload X308.here hx rfl (hb hby at_316) rfl ?_
        show Steps p.tables e below (T308.setTop (mkF m 318 #[.val (.int p1), .val (.int p2), .val (.int p3), .val (.ref b2), .val (.int v95_0), .val (.int (1 : Int32)), .val (.int (if (0 : Int32) < v190_0 then ((4 : Int32) + v190_0) else (4 : Int32))), .val (.int hs), .val (.int (hs + hh)), .val (.int ((p2 &&& (2147483647 : Int32)) % (65536 : Int32))), .unset, .unset, .val (.int hh), .val (.int v190_0), .val (.int v192_0), .val (.int (own_f9 ((p2 &&& (2147483647 : Int32)) % (65536 : Int32))))] [(.int ((p2 &&& (2147483647 : Int32)) % (65536 : Int32))), (.int (((hs + hh) + (1 : Int32)) + (own_f9 ((p2 &&& (2147483647 : Int32)) % (65536 : Int32))))), (.ref b2)])) _
        refine XS.iload X308.here hx rfl (hb hby at_318) rfl ?_
        exact kt
      obtain ⟨_, _, ⟨T313, L313, k313, n313⟩, -, X313, ⟨Lc313, hQ313, l313, y313, z313⟩, st313⟩ := Jvm.LawKit.callS X308 hx (y := (⟨"com/example/meyrin/meyrin/UrlAuthorityEndPinLaw", "writeDigits", "([CIII)V"⟩ : MethodName)) hown (mvT hZ (hw _ (List.mem_of_getElem? (i := 66) rfl))) (mvT hZ (hw _ (List.mem_of_getElem? (i := 67) rfl))) (mvT hZ (hw _ (List.mem_of_getElem? (i := 64) rfl))) (mvT hZ (hw _ (List.mem_of_getElem? (i := 68) rfl))) (by decide) (backOf (W := 0) (rm10 l Z a0 hw [] b2 (((hs + hh) + (1 : Int32)) + (own_f9 ((p2 &&& (2147483647 : Int32)) % (65536 : Int32)))) ((p2 &&& (2147483647 : Int32)) % (65536 : Int32)) (own_f9 ((p2 &&& (2147483647 : Int32)) % (65536 : Int32))) k2 (vs234_0.set ((hs + hh)).toNatClampNeg (.int (nar .char (58 : Int32)))) h308 n0 Z308 V0_308 g_b2 (ok309) (by rw [ehe1]; omega) (own_port p2)) hZ (hw _ (List.mem_of_getElem? (i := 68) rfl)) (hw _ (List.mem_of_getElem? (i := 64) rfl)) (by decide) (by decide)) (g := (mkF m 320 #[.val (.int p1), .val (.int p2), .val (.int p3), .val (.ref b2), .val (.int v95_0), .val (.int (1 : Int32)), .val (.int (if (0 : Int32) < v190_0 then ((4 : Int32) + v190_0) else (4 : Int32))), .val (.int hs), .val (.int (hs + hh)), .val (.int ((p2 &&& (2147483647 : Int32)) % (65536 : Int32))), .unset, .unset, .val (.int hh), .val (.int v190_0), .val (.int v192_0), .val (.int (own_f9 ((p2 &&& (2147483647 : Int32)) % (65536 : Int32))))] [(.int (own_f9 ((p2 &&& (2147483647 : Int32)) % (65536 : Int32)))), (.int ((p2 &&& (2147483647 : Int32)) % (65536 : Int32))), (.int (((hs + hh) + (1 : Int32)) + (own_f9 ((p2 &&& (2147483647 : Int32)) % (65536 : Int32))))), (.ref b2)])) rfl (by rw [hml]; rfl) (argsL := [(.ref b2), (.int (((hs + hh) + (1 : Int32)) + (own_f9 ((p2 &&& (2147483647 : Int32)) % (65536 : Int32))))), (.int ((p2 &&& (2147483647 : Int32)) % (65536 : Int32))), (.int (own_f9 ((p2 &&& (2147483647 : Int32)) % (65536 : Int32))))]) (rest := []) (lenOf pd_4 rfl) rfl (by show 2 * 0 + _ ≤ _; exact Nat.le_of_eq rfl) (hb hby at_320) (fun _ _ => ⟨rfl, e308, (by decide : 1 + 0 ≤ _), (by decide : 20 + 0 ≤ _)⟩)
      dsimp only [Pt.U, Pt.locs, Pt.cells, Pt.slots] at X313 l313 y313 z313 st313 hQ313
      subst l313 y313 z313
      obtain ⟨vz_313, rfl, N313q, KC313, P313_0, R313_0⟩ := hQ313
      have N313 := Fr.app N308 N313q
      have Z313 : n0 ≤ T313.heap.size := Nat.le_trans Z308 KC313.1
      have K313 : Keep h0 T313.heap [] := K308.trans KC313 (allS (Or.inr sz_b2) all0)
      have SCS_314 := own_stak SCS_310 KC313 (nsS V0_308.nostat ns0)
      have V_b2_313 : Arv Z T313.heap b2 k2 .char (20 : Int32) vz_313 (.int (0 : Int32)) := P313_0
      have pre313 : ∀ t, Steps p.tables e below (T313.setTop (mkF m 323 #[.val (.int p1), .val (.int p2), .val (.int p3), .val (.ref b2), .val (.int v95_0), .val (.int (1 : Int32)), .val (.int (if (0 : Int32) < v190_0 then ((4 : Int32) + v190_0) else (4 : Int32))), .val (.int hs), .val (.int (hs + hh)), .val (.int ((p2 &&& (2147483647 : Int32)) % (65536 : Int32))), .unset, .unset, .val (.int hh), .val (.int v190_0), .val (.int v192_0), .val (.int (own_f9 ((p2 &&& (2147483647 : Int32)) % (65536 : Int32))))] [])) t → Steps p.tables e below (s₁.setTop (entryFrame m #[(.int p1), (.int p2), (.int p3)] maxLocals)) t := fun t kt => pre312 t (st313 _ kt)
      have pre316 : ∀ t, Steps p.tables e below (T313.setTop (mkF m 366 #[.val (.int p1), .val (.int p2), .val (.int p3), .val (.ref b2), .val (.int v95_0), .val (.int (1 : Int32)), .val (.int (if (0 : Int32) < v190_0 then ((4 : Int32) + v190_0) else (4 : Int32))), .val (.int hs), .val (.int (hs + hh)), .val (.int ((p2 &&& (2147483647 : Int32)) % (65536 : Int32))), .val (.int (((hs + hh) + (1 : Int32)) + (own_f9 ((p2 &&& (2147483647 : Int32)) % (65536 : Int32))))), .val (.int (((hs + hh) + (1 : Int32)) + (own_f9 ((p2 &&& (2147483647 : Int32)) % (65536 : Int32))))), .val (.int hh), .val (.int v190_0), .val (.int v192_0), .val (.int (own_f9 ((p2 &&& (2147483647 : Int32)) % (65536 : Int32))))] [(.int (47 : Int32)), (.int (((hs + hh) + (1 : Int32)) + (own_f9 ((p2 &&& (2147483647 : Int32)) % (65536 : Int32))))), (.ref b2)])) t → Steps p.tables e below (s₁.setTop (entryFrame m #[(.int p1), (.int p2), (.int p3)] maxLocals)) t := by
        intro t kt
        refine pre313 t ?_
        show Steps p.tables e below (T313.setTop (mkF m 323 #[.val (.int p1), .val (.int p2), .val (.int p3), .val (.ref b2), .val (.int v95_0), .val (.int (1 : Int32)), .val (.int (if (0 : Int32) < v190_0 then ((4 : Int32) + v190_0) else (4 : Int32))), .val (.int hs), .val (.int (hs + hh)), .val (.int ((p2 &&& (2147483647 : Int32)) % (65536 : Int32))), .unset, .unset, .val (.int hh), .val (.int v190_0), .val (.int v192_0), .val (.int (own_f9 ((p2 &&& (2147483647 : Int32)) % (65536 : Int32))))] [])) _
        refine XS.iload X313.here hx rfl (hb hby at_323) rfl ?_
        show Steps p.tables e below (T313.setTop (mkF m 325 #[.val (.int p1), .val (.int p2), .val (.int p3), .val (.ref b2), .val (.int v95_0), .val (.int (1 : Int32)), .val (.int (if (0 : Int32) < v190_0 then ((4 : Int32) + v190_0) else (4 : Int32))), .val (.int hs), .val (.int (hs + hh)), .val (.int ((p2 &&& (2147483647 : Int32)) % (65536 : Int32))), .unset, .unset, .val (.int hh), .val (.int v190_0), .val (.int v192_0), .val (.int (own_f9 ((p2 &&& (2147483647 : Int32)) % (65536 : Int32))))] [(.int (hs + hh))])) _
        refine XS.iconst X313.here hx rfl (hb hby at_325) ?_
        show Steps p.tables e below (T313.setTop (mkF m 326 #[.val (.int p1), .val (.int p2), .val (.int p3), .val (.ref b2), .val (.int v95_0), .val (.int (1 : Int32)), .val (.int (if (0 : Int32) < v190_0 then ((4 : Int32) + v190_0) else (4 : Int32))), .val (.int hs), .val (.int (hs + hh)), .val (.int ((p2 &&& (2147483647 : Int32)) % (65536 : Int32))), .unset, .unset, .val (.int hh), .val (.int v190_0), .val (.int v192_0), .val (.int (own_f9 ((p2 &&& (2147483647 : Int32)) % (65536 : Int32))))] [(.int (1 : Int32)), (.int (hs + hh))])) _
        refine XS.iadd X313.here hx rfl (hb hby at_326) rfl ?_
        show Steps p.tables e below (T313.setTop (mkF m 327 #[.val (.int p1), .val (.int p2), .val (.int p3), .val (.ref b2), .val (.int v95_0), .val (.int (1 : Int32)), .val (.int (if (0 : Int32) < v190_0 then ((4 : Int32) + v190_0) else (4 : Int32))), .val (.int hs), .val (.int (hs + hh)), .val (.int ((p2 &&& (2147483647 : Int32)) % (65536 : Int32))), .unset, .unset, .val (.int hh), .val (.int v190_0), .val (.int v192_0), .val (.int (own_f9 ((p2 &&& (2147483647 : Int32)) % (65536 : Int32))))] [(.int ((hs + hh) + (1 : Int32)))])) _
        refine XS.iload X313.here hx rfl (hb hby at_327) rfl ?_
        show Steps p.tables e below (T313.setTop (mkF m 329 #[.val (.int p1), .val (.int p2), .val (.int p3), .val (.ref b2), .val (.int v95_0), .val (.int (1 : Int32)), .val (.int (if (0 : Int32) < v190_0 then ((4 : Int32) + v190_0) else (4 : Int32))), .val (.int hs), .val (.int (hs + hh)), .val (.int ((p2 &&& (2147483647 : Int32)) % (65536 : Int32))), .unset, .unset, .val (.int hh), .val (.int v190_0), .val (.int v192_0), .val (.int (own_f9 ((p2 &&& (2147483647 : Int32)) % (65536 : Int32))))] [(.int (own_f9 ((p2 &&& (2147483647 : Int32)) % (65536 : Int32)))), (.int ((hs + hh) + (1 : Int32)))])) _
        refine XS.iadd X313.here hx rfl (hb hby at_329) rfl ?_
        show Steps p.tables e below (T313.setTop (mkF m 330 #[.val (.int p1), .val (.int p2), .val (.int p3), .val (.ref b2), .val (.int v95_0), .val (.int (1 : Int32)), .val (.int (if (0 : Int32) < v190_0 then ((4 : Int32) + v190_0) else (4 : Int32))), .val (.int hs), .val (.int (hs + hh)), .val (.int ((p2 &&& (2147483647 : Int32)) % (65536 : Int32))), .unset, .unset, .val (.int hh), .val (.int v190_0), .val (.int v192_0), .val (.int (own_f9 ((p2 &&& (2147483647 : Int32)) % (65536 : Int32))))] [(.int (((hs + hh) + (1 : Int32)) + (own_f9 ((p2 &&& (2147483647 : Int32)) % (65536 : Int32)))))])) _
        refine XS.istore X313.here hx rfl (hb hby at_330) rfl (l' := #[.val (.int p1), .val (.int p2), .val (.int p3), .val (.ref b2), .val (.int v95_0), .val (.int (1 : Int32)), .val (.int (if (0 : Int32) < v190_0 then ((4 : Int32) + v190_0) else (4 : Int32))), .val (.int hs), .val (.int (hs + hh)), .val (.int ((p2 &&& (2147483647 : Int32)) % (65536 : Int32))), .val (.int (((hs + hh) + (1 : Int32)) + (own_f9 ((p2 &&& (2147483647 : Int32)) % (65536 : Int32))))), .unset, .val (.int hh), .val (.int v190_0), .val (.int v192_0), .val (.int (own_f9 ((p2 &&& (2147483647 : Int32)) % (65536 : Int32))))]) rfl ?_
        show Steps p.tables e below (T313.setTop (mkF m 332 #[.val (.int p1), .val (.int p2), .val (.int p3), .val (.ref b2), .val (.int v95_0), .val (.int (1 : Int32)), .val (.int (if (0 : Int32) < v190_0 then ((4 : Int32) + v190_0) else (4 : Int32))), .val (.int hs), .val (.int (hs + hh)), .val (.int ((p2 &&& (2147483647 : Int32)) % (65536 : Int32))), .val (.int (((hs + hh) + (1 : Int32)) + (own_f9 ((p2 &&& (2147483647 : Int32)) % (65536 : Int32))))), .unset, .val (.int hh), .val (.int v190_0), .val (.int v192_0), .val (.int (own_f9 ((p2 &&& (2147483647 : Int32)) % (65536 : Int32))))] [])) _
        refine XS.iload X313.here hx rfl (hb hby at_332) rfl ?_
        show Steps p.tables e below (T313.setTop (mkF m 334 #[.val (.int p1), .val (.int p2), .val (.int p3), .val (.ref b2), .val (.int v95_0), .val (.int (1 : Int32)), .val (.int (if (0 : Int32) < v190_0 then ((4 : Int32) + v190_0) else (4 : Int32))), .val (.int hs), .val (.int (hs + hh)), .val (.int ((p2 &&& (2147483647 : Int32)) % (65536 : Int32))), .val (.int (((hs + hh) + (1 : Int32)) + (own_f9 ((p2 &&& (2147483647 : Int32)) % (65536 : Int32))))), .unset, .val (.int hh), .val (.int v190_0), .val (.int v192_0), .val (.int (own_f9 ((p2 &&& (2147483647 : Int32)) % (65536 : Int32))))] [(.int hs)])) _
        refine XS.iload X313.here hx rfl (hb hby at_334) rfl ?_
        show Steps p.tables e below (T313.setTop (mkF m 336 #[.val (.int p1), .val (.int p2), .val (.int p3), .val (.ref b2), .val (.int v95_0), .val (.int (1 : Int32)), .val (.int (if (0 : Int32) < v190_0 then ((4 : Int32) + v190_0) else (4 : Int32))), .val (.int hs), .val (.int (hs + hh)), .val (.int ((p2 &&& (2147483647 : Int32)) % (65536 : Int32))), .val (.int (((hs + hh) + (1 : Int32)) + (own_f9 ((p2 &&& (2147483647 : Int32)) % (65536 : Int32))))), .unset, .val (.int hh), .val (.int v190_0), .val (.int v192_0), .val (.int (own_f9 ((p2 &&& (2147483647 : Int32)) % (65536 : Int32))))] [(.int hh), (.int hs)])) _
        refine XS.iadd X313.here hx rfl (hb hby at_336) rfl ?_
        show Steps p.tables e below (T313.setTop (mkF m 337 #[.val (.int p1), .val (.int p2), .val (.int p3), .val (.ref b2), .val (.int v95_0), .val (.int (1 : Int32)), .val (.int (if (0 : Int32) < v190_0 then ((4 : Int32) + v190_0) else (4 : Int32))), .val (.int hs), .val (.int (hs + hh)), .val (.int ((p2 &&& (2147483647 : Int32)) % (65536 : Int32))), .val (.int (((hs + hh) + (1 : Int32)) + (own_f9 ((p2 &&& (2147483647 : Int32)) % (65536 : Int32))))), .unset, .val (.int hh), .val (.int v190_0), .val (.int v192_0), .val (.int (own_f9 ((p2 &&& (2147483647 : Int32)) % (65536 : Int32))))] [(.int (hs + hh))])) _
        refine XS.iconst X313.here hx rfl (hb hby at_337) ?_
        show Steps p.tables e below (T313.setTop (mkF m 338 #[.val (.int p1), .val (.int p2), .val (.int p3), .val (.ref b2), .val (.int v95_0), .val (.int (1 : Int32)), .val (.int (if (0 : Int32) < v190_0 then ((4 : Int32) + v190_0) else (4 : Int32))), .val (.int hs), .val (.int (hs + hh)), .val (.int ((p2 &&& (2147483647 : Int32)) % (65536 : Int32))), .val (.int (((hs + hh) + (1 : Int32)) + (own_f9 ((p2 &&& (2147483647 : Int32)) % (65536 : Int32))))), .unset, .val (.int hh), .val (.int v190_0), .val (.int v192_0), .val (.int (own_f9 ((p2 &&& (2147483647 : Int32)) % (65536 : Int32))))] [(.int (1 : Int32)), (.int (hs + hh))])) _
        refine XS.iadd X313.here hx rfl (hb hby at_338) rfl ?_
        show Steps p.tables e below (T313.setTop (mkF m 339 #[.val (.int p1), .val (.int p2), .val (.int p3), .val (.ref b2), .val (.int v95_0), .val (.int (1 : Int32)), .val (.int (if (0 : Int32) < v190_0 then ((4 : Int32) + v190_0) else (4 : Int32))), .val (.int hs), .val (.int (hs + hh)), .val (.int ((p2 &&& (2147483647 : Int32)) % (65536 : Int32))), .val (.int (((hs + hh) + (1 : Int32)) + (own_f9 ((p2 &&& (2147483647 : Int32)) % (65536 : Int32))))), .unset, .val (.int hh), .val (.int v190_0), .val (.int v192_0), .val (.int (own_f9 ((p2 &&& (2147483647 : Int32)) % (65536 : Int32))))] [(.int ((hs + hh) + (1 : Int32)))])) _
        refine XS.iload X313.here hx rfl (hb hby at_339) rfl ?_
        show Steps p.tables e below (T313.setTop (mkF m 341 #[.val (.int p1), .val (.int p2), .val (.int p3), .val (.ref b2), .val (.int v95_0), .val (.int (1 : Int32)), .val (.int (if (0 : Int32) < v190_0 then ((4 : Int32) + v190_0) else (4 : Int32))), .val (.int hs), .val (.int (hs + hh)), .val (.int ((p2 &&& (2147483647 : Int32)) % (65536 : Int32))), .val (.int (((hs + hh) + (1 : Int32)) + (own_f9 ((p2 &&& (2147483647 : Int32)) % (65536 : Int32))))), .unset, .val (.int hh), .val (.int v190_0), .val (.int v192_0), .val (.int (own_f9 ((p2 &&& (2147483647 : Int32)) % (65536 : Int32))))] [(.int (own_f9 ((p2 &&& (2147483647 : Int32)) % (65536 : Int32)))), (.int ((hs + hh) + (1 : Int32)))])) _
        refine XS.iadd X313.here hx rfl (hb hby at_341) rfl ?_
        show Steps p.tables e below (T313.setTop (mkF m 342 #[.val (.int p1), .val (.int p2), .val (.int p3), .val (.ref b2), .val (.int v95_0), .val (.int (1 : Int32)), .val (.int (if (0 : Int32) < v190_0 then ((4 : Int32) + v190_0) else (4 : Int32))), .val (.int hs), .val (.int (hs + hh)), .val (.int ((p2 &&& (2147483647 : Int32)) % (65536 : Int32))), .val (.int (((hs + hh) + (1 : Int32)) + (own_f9 ((p2 &&& (2147483647 : Int32)) % (65536 : Int32))))), .unset, .val (.int hh), .val (.int v190_0), .val (.int v192_0), .val (.int (own_f9 ((p2 &&& (2147483647 : Int32)) % (65536 : Int32))))] [(.int (((hs + hh) + (1 : Int32)) + (own_f9 ((p2 &&& (2147483647 : Int32)) % (65536 : Int32)))))])) _
        refine XS.istore X313.here hx rfl (hb hby at_342) rfl (l' := #[.val (.int p1), .val (.int p2), .val (.int p3), .val (.ref b2), .val (.int v95_0), .val (.int (1 : Int32)), .val (.int (if (0 : Int32) < v190_0 then ((4 : Int32) + v190_0) else (4 : Int32))), .val (.int hs), .val (.int (hs + hh)), .val (.int ((p2 &&& (2147483647 : Int32)) % (65536 : Int32))), .val (.int (((hs + hh) + (1 : Int32)) + (own_f9 ((p2 &&& (2147483647 : Int32)) % (65536 : Int32))))), .val (.int (((hs + hh) + (1 : Int32)) + (own_f9 ((p2 &&& (2147483647 : Int32)) % (65536 : Int32))))), .val (.int hh), .val (.int v190_0), .val (.int v192_0), .val (.int (own_f9 ((p2 &&& (2147483647 : Int32)) % (65536 : Int32))))]) rfl ?_
        show Steps p.tables e below (T313.setTop (mkF m 344 #[.val (.int p1), .val (.int p2), .val (.int p3), .val (.ref b2), .val (.int v95_0), .val (.int (1 : Int32)), .val (.int (if (0 : Int32) < v190_0 then ((4 : Int32) + v190_0) else (4 : Int32))), .val (.int hs), .val (.int (hs + hh)), .val (.int ((p2 &&& (2147483647 : Int32)) % (65536 : Int32))), .val (.int (((hs + hh) + (1 : Int32)) + (own_f9 ((p2 &&& (2147483647 : Int32)) % (65536 : Int32))))), .val (.int (((hs + hh) + (1 : Int32)) + (own_f9 ((p2 &&& (2147483647 : Int32)) % (65536 : Int32))))), .val (.int hh), .val (.int v190_0), .val (.int v192_0), .val (.int (own_f9 ((p2 &&& (2147483647 : Int32)) % (65536 : Int32))))] [])) _
        refine XS.goto X313.here hx rfl (pc0 := 344) (pc' := 361) rfl (hb hby at_344) (by decide) (by decide) ?_
        show Steps p.tables e below (T313.setTop (mkF m 361 #[.val (.int p1), .val (.int p2), .val (.int p3), .val (.ref b2), .val (.int v95_0), .val (.int (1 : Int32)), .val (.int (if (0 : Int32) < v190_0 then ((4 : Int32) + v190_0) else (4 : Int32))), .val (.int hs), .val (.int (hs + hh)), .val (.int ((p2 &&& (2147483647 : Int32)) % (65536 : Int32))), .val (.int (((hs + hh) + (1 : Int32)) + (own_f9 ((p2 &&& (2147483647 : Int32)) % (65536 : Int32))))), .val (.int (((hs + hh) + (1 : Int32)) + (own_f9 ((p2 &&& (2147483647 : Int32)) % (65536 : Int32))))), .val (.int hh), .val (.int v190_0), .val (.int v192_0), .val (.int (own_f9 ((p2 &&& (2147483647 : Int32)) % (65536 : Int32))))] [])) _
        refine XS.aloadN X313.here hx rfl (hb hby at_361) rfl rfl ?_
        show Steps p.tables e below (T313.setTop (mkF m 362 #[.val (.int p1), .val (.int p2), .val (.int p3), .val (.ref b2), .val (.int v95_0), .val (.int (1 : Int32)), .val (.int (if (0 : Int32) < v190_0 then ((4 : Int32) + v190_0) else (4 : Int32))), .val (.int hs), .val (.int (hs + hh)), .val (.int ((p2 &&& (2147483647 : Int32)) % (65536 : Int32))), .val (.int (((hs + hh) + (1 : Int32)) + (own_f9 ((p2 &&& (2147483647 : Int32)) % (65536 : Int32))))), .val (.int (((hs + hh) + (1 : Int32)) + (own_f9 ((p2 &&& (2147483647 : Int32)) % (65536 : Int32))))), .val (.int hh), .val (.int v190_0), .val (.int v192_0), .val (.int (own_f9 ((p2 &&& (2147483647 : Int32)) % (65536 : Int32))))] [(.ref b2)])) _
        refine XS.iload X313.here hx rfl (hb hby at_362) rfl ?_
        show Steps p.tables e below (T313.setTop (mkF m 364 #[.val (.int p1), .val (.int p2), .val (.int p3), .val (.ref b2), .val (.int v95_0), .val (.int (1 : Int32)), .val (.int (if (0 : Int32) < v190_0 then ((4 : Int32) + v190_0) else (4 : Int32))), .val (.int hs), .val (.int (hs + hh)), .val (.int ((p2 &&& (2147483647 : Int32)) % (65536 : Int32))), .val (.int (((hs + hh) + (1 : Int32)) + (own_f9 ((p2 &&& (2147483647 : Int32)) % (65536 : Int32))))), .val (.int (((hs + hh) + (1 : Int32)) + (own_f9 ((p2 &&& (2147483647 : Int32)) % (65536 : Int32))))), .val (.int hh), .val (.int v190_0), .val (.int v192_0), .val (.int (own_f9 ((p2 &&& (2147483647 : Int32)) % (65536 : Int32))))] [(.int (((hs + hh) + (1 : Int32)) + (own_f9 ((p2 &&& (2147483647 : Int32)) % (65536 : Int32))))), (.ref b2)])) _
        refine XS.bipush X313.here hx rfl (hb hby at_364) ?_
        exact kt
      obtain ⟨cl317, Ar317, q317, S317, M317, H317, G317⟩ := (id V_b2_313)
      have ok318 : own_ok (vz_313.set ((((hs + hh) + (1 : Int32)) + (own_f9 ((p2 &&& (2147483647 : Int32)) % (65536 : Int32))))).toNatClampNeg (.int (nar .char (47 : Int32)))) := own_okset R313_0 _ (by decide)
      have hin317 : ¬ ((((hs + hh) + (1 : Int32)) + (own_f9 ((p2 &&& (2147483647 : Int32)) % (65536 : Int32)))) < 0 ∨ cl317.slots.size ≤ ((((hs + hh) + (1 : Int32)) + (own_f9 ((p2 &&& (2147483647 : Int32)) % (65536 : Int32))))).toNatClampNeg) := inb_of S317 (own_in (by rw [ehe1]; omega))
      obtain ⟨T317, h317, X317, e317, W317, st317⟩ := stC X313 hx hZ rfl Ar317 (j := (((hs + hh) + (1 : Int32)) + (own_f9 ((p2 &&& (2147483647 : Int32)) % (65536 : Int32))))) hin317 (g := (mkF m 366 #[.val (.int p1), .val (.int p2), .val (.int p3), .val (.ref b2), .val (.int v95_0), .val (.int (1 : Int32)), .val (.int (if (0 : Int32) < v190_0 then ((4 : Int32) + v190_0) else (4 : Int32))), .val (.int hs), .val (.int (hs + hh)), .val (.int ((p2 &&& (2147483647 : Int32)) % (65536 : Int32))), .val (.int (((hs + hh) + (1 : Int32)) + (own_f9 ((p2 &&& (2147483647 : Int32)) % (65536 : Int32))))), .val (.int (((hs + hh) + (1 : Int32)) + (own_f9 ((p2 &&& (2147483647 : Int32)) % (65536 : Int32))))), .val (.int hh), .val (.int v190_0), .val (.int v192_0), .val (.int (own_f9 ((p2 &&& (2147483647 : Int32)) % (65536 : Int32))))] [(.int (47 : Int32)), (.int (((hs + hh) + (1 : Int32)) + (own_f9 ((p2 &&& (2147483647 : Int32)) % (65536 : Int32))))), (.ref b2)])) rfl rfl (hb hby at_366)
      have V_b2_313_317 := Arv.set Ar317 q317 S317 M317 H317 G317 (fits_nar_char _) W317 ((((hs + hh) + (1 : Int32)) + (own_f9 ((p2 &&& (2147483647 : Int32)) % (65536 : Int32))))).toNatClampNeg rfl (own_oklt R313_0 (own_in (by rw [ehe1]; omega)))
      have N317 := Fr.snoc X317 N313 g_b2
      have K317 : Keep h0 h317 [] := K313.wr W317 (Or.inr sz_b2)
      have Z317 : n0 ≤ h317.size := Nat.le_trans Z313 (Keep.of_wr W317).1
      have SCS_319 := SCS_314.wr W317
      have pre317 : ∀ t, Steps p.tables e below (T317.setTop (mkF m 367 #[.val (.int p1), .val (.int p2), .val (.int p3), .val (.ref b2), .val (.int v95_0), .val (.int (1 : Int32)), .val (.int (if (0 : Int32) < v190_0 then ((4 : Int32) + v190_0) else (4 : Int32))), .val (.int hs), .val (.int (hs + hh)), .val (.int ((p2 &&& (2147483647 : Int32)) % (65536 : Int32))), .val (.int (((hs + hh) + (1 : Int32)) + (own_f9 ((p2 &&& (2147483647 : Int32)) % (65536 : Int32))))), .val (.int (((hs + hh) + (1 : Int32)) + (own_f9 ((p2 &&& (2147483647 : Int32)) % (65536 : Int32))))), .val (.int hh), .val (.int v190_0), .val (.int v192_0), .val (.int (own_f9 ((p2 &&& (2147483647 : Int32)) % (65536 : Int32))))] [])) t → Steps p.tables e below (s₁.setTop (entryFrame m #[(.int p1), (.int p2), (.int p3)] maxLocals)) t := fun t kt => pre316 t (st317 _ kt)
      have pre321 : ∀ t, Steps p.tables e below (T317.setTop (mkF m 438 #[.val (.int p1), .val (.int p2), .val (.int p3), .val (.ref b2), .val (.int v95_0), .val (.int (1 : Int32)), .val (.int (if (0 : Int32) < v190_0 then ((4 : Int32) + v190_0) else (4 : Int32))), .val (.int hs), .val (.int (hs + hh)), .val (.int ((p2 &&& (2147483647 : Int32)) % (65536 : Int32))), .val (.int (((hs + hh) + (1 : Int32)) + (own_f9 ((p2 &&& (2147483647 : Int32)) % (65536 : Int32))))), .val (.int (((hs + hh) + (1 : Int32)) + (own_f9 ((p2 &&& (2147483647 : Int32)) % (65536 : Int32))))), .val (.int hh), .val (.int v190_0), .val (.int v192_0), .val (.int (own_f9 ((p2 &&& (2147483647 : Int32)) % (65536 : Int32))))] [])) t → Steps p.tables e below (s₁.setTop (entryFrame m #[(.int p1), (.int p2), (.int p3)] maxLocals)) t := by
        intro t kt
        refine pre317 t ?_
        show Steps p.tables e below (T317.setTop (mkF m 367 #[.val (.int p1), .val (.int p2), .val (.int p3), .val (.ref b2), .val (.int v95_0), .val (.int (1 : Int32)), .val (.int (if (0 : Int32) < v190_0 then ((4 : Int32) + v190_0) else (4 : Int32))), .val (.int hs), .val (.int (hs + hh)), .val (.int ((p2 &&& (2147483647 : Int32)) % (65536 : Int32))), .val (.int (((hs + hh) + (1 : Int32)) + (own_f9 ((p2 &&& (2147483647 : Int32)) % (65536 : Int32))))), .val (.int (((hs + hh) + (1 : Int32)) + (own_f9 ((p2 &&& (2147483647 : Int32)) % (65536 : Int32))))), .val (.int hh), .val (.int v190_0), .val (.int v192_0), .val (.int (own_f9 ((p2 &&& (2147483647 : Int32)) % (65536 : Int32))))] [])) _
        refine XS.goto X317.here hx rfl (pc0 := 367) (pc' := 438) rfl (hb hby at_367) (by decide) (by decide) ?_
        exact kt
      obtain ⟨T322, h322, X322, e322, E322, A322, D322, -, st322⟩ := newO X317 hx hZ hown (hw _ (List.mem_of_getElem? (i := 1) rfl)) (hw _ (List.mem_of_getElem? (i := 2) rfl)) (hw _ (List.mem_of_getElem? (i := 3) rfl)) e317 (g := (mkF m 438 #[.val (.int p1), .val (.int p2), .val (.int p3), .val (.ref b2), .val (.int v95_0), .val (.int (1 : Int32)), .val (.int (if (0 : Int32) < v190_0 then ((4 : Int32) + v190_0) else (4 : Int32))), .val (.int hs), .val (.int (hs + hh)), .val (.int ((p2 &&& (2147483647 : Int32)) % (65536 : Int32))), .val (.int (((hs + hh) + (1 : Int32)) + (own_f9 ((p2 &&& (2147483647 : Int32)) % (65536 : Int32))))), .val (.int (((hs + hh) + (1 : Int32)) + (own_f9 ((p2 &&& (2147483647 : Int32)) % (65536 : Int32))))), .val (.int hh), .val (.int v190_0), .val (.int v192_0), .val (.int (own_f9 ((p2 &&& (2147483647 : Int32)) % (65536 : Int32))))] [])) rfl (hb hby at_438) (by decide) (by decide)
      obtain ⟨b322, g322⟩ : ∃ z, z = h317.size := ⟨_, rfl⟩
      have ne_b2_b322 : b2 ≠ b322 := Nat.ne_of_lt (Nat.lt_of_lt_of_le V_b2_313_317.lt (Nat.le_of_eq g322.symm))
      have g_b322 : n0 ≤ b322 := Nat.le_trans Z317 (Nat.le_of_eq g322.symm)
      have sz_b322 : h0.size ≤ b322 := Nat.le_trans K317.1 (Nat.le_of_eq g322.symm)
      rw [← g322] at A322 D322 st322
      have K322 : Keep h0 h322 [] := K317.ext E322
      have Z322 : n0 ≤ h322.size := Nat.le_trans Z317 E322.1
      have SCS_323 := SCS_319.ext E322
      have V_b2_313_324 := V_b2_313_317.ext E322
      have F_href_b322 : Fld Z h322 b322 "com/example/meyrin/meyrin/Url" "href" "Ljava/lang/String;" .null := D322 (Or.inr (hw _ (List.mem_of_getElem? (i := 38) rfl))) (ty := (.object "java/lang/String")) (by decide)
      have F_schemeEnd_b322 : Fld Z h322 b322 "com/example/meyrin/meyrin/Url" "schemeEnd" "I" (.int (0 : Int32)) := D322 (Or.inr (hw _ (List.mem_of_getElem? (i := 40) rfl))) (ty := .int) (by decide)
      have F_usernameEnd_b322 : Fld Z h322 b322 "com/example/meyrin/meyrin/Url" "usernameEnd" "I" (.int (0 : Int32)) := D322 (Or.inr (hw _ (List.mem_of_getElem? (i := 42) rfl))) (ty := .int) (by decide)
      have F_hostStart_b322 : Fld Z h322 b322 "com/example/meyrin/meyrin/Url" "hostStart" "I" (.int (0 : Int32)) := D322 (Or.inr (hw _ (List.mem_of_getElem? (i := 44) rfl))) (ty := .int) (by decide)
      have F_hostEnd_b322 : Fld Z h322 b322 "com/example/meyrin/meyrin/Url" "hostEnd" "I" (.int (0 : Int32)) := D322 (Or.inr (hw _ (List.mem_of_getElem? (i := 46) rfl))) (ty := .int) (by decide)
      have F_port_b322 : Fld Z h322 b322 "com/example/meyrin/meyrin/Url" "port" "I" (.int (0 : Int32)) := D322 (Or.inr (hw _ (List.mem_of_getElem? (i := 48) rfl))) (ty := .int) (by decide)
      have F_pathStart_b322 : Fld Z h322 b322 "com/example/meyrin/meyrin/Url" "pathStart" "I" (.int (0 : Int32)) := D322 (Or.inr (hw _ (List.mem_of_getElem? (i := 50) rfl))) (ty := .int) (by decide)
      have F_pathEnd_b322 : Fld Z h322 b322 "com/example/meyrin/meyrin/Url" "pathEnd" "I" (.int (0 : Int32)) := D322 (Or.inr (hw _ (List.mem_of_getElem? (i := 52) rfl))) (ty := .int) (by decide)
      have F_queryEnd_b322 : Fld Z h322 b322 "com/example/meyrin/meyrin/Url" "queryEnd" "I" (.int (0 : Int32)) := D322 (Or.inr (hw _ (List.mem_of_getElem? (i := 54) rfl))) (ty := .int) (by decide)
      have pre322 : ∀ t, Steps p.tables e below (T322.setTop (mkF m 441 #[.val (.int p1), .val (.int p2), .val (.int p3), .val (.ref b2), .val (.int v95_0), .val (.int (1 : Int32)), .val (.int (if (0 : Int32) < v190_0 then ((4 : Int32) + v190_0) else (4 : Int32))), .val (.int hs), .val (.int (hs + hh)), .val (.int ((p2 &&& (2147483647 : Int32)) % (65536 : Int32))), .val (.int (((hs + hh) + (1 : Int32)) + (own_f9 ((p2 &&& (2147483647 : Int32)) % (65536 : Int32))))), .val (.int (((hs + hh) + (1 : Int32)) + (own_f9 ((p2 &&& (2147483647 : Int32)) % (65536 : Int32))))), .val (.int hh), .val (.int v190_0), .val (.int v192_0), .val (.int (own_f9 ((p2 &&& (2147483647 : Int32)) % (65536 : Int32))))] [(.ref b322)])) t → Steps p.tables e below (s₁.setTop (entryFrame m #[(.int p1), (.int p2), (.int p3)] maxLocals)) t := fun t kt => pre321 t (st322 _ kt)
      have pre325 : ∀ t, Steps p.tables e below (T322.setTop (mkF m 442 #[.val (.int p1), .val (.int p2), .val (.int p3), .val (.ref b2), .val (.int v95_0), .val (.int (1 : Int32)), .val (.int (if (0 : Int32) < v190_0 then ((4 : Int32) + v190_0) else (4 : Int32))), .val (.int hs), .val (.int (hs + hh)), .val (.int ((p2 &&& (2147483647 : Int32)) % (65536 : Int32))), .val (.int (((hs + hh) + (1 : Int32)) + (own_f9 ((p2 &&& (2147483647 : Int32)) % (65536 : Int32))))), .val (.int (((hs + hh) + (1 : Int32)) + (own_f9 ((p2 &&& (2147483647 : Int32)) % (65536 : Int32))))), .val (.int hh), .val (.int v190_0), .val (.int v192_0), .val (.int (own_f9 ((p2 &&& (2147483647 : Int32)) % (65536 : Int32))))] [(.ref b322), (.ref b322)])) t → Steps p.tables e below (s₁.setTop (entryFrame m #[(.int p1), (.int p2), (.int p3)] maxLocals)) t := by
        intro t kt
        refine pre322 t ?_
        show Steps p.tables e below (T322.setTop (mkF m 441 #[.val (.int p1), .val (.int p2), .val (.int p3), .val (.ref b2), .val (.int v95_0), .val (.int (1 : Int32)), .val (.int (if (0 : Int32) < v190_0 then ((4 : Int32) + v190_0) else (4 : Int32))), .val (.int hs), .val (.int (hs + hh)), .val (.int ((p2 &&& (2147483647 : Int32)) % (65536 : Int32))), .val (.int (((hs + hh) + (1 : Int32)) + (own_f9 ((p2 &&& (2147483647 : Int32)) % (65536 : Int32))))), .val (.int (((hs + hh) + (1 : Int32)) + (own_f9 ((p2 &&& (2147483647 : Int32)) % (65536 : Int32))))), .val (.int hh), .val (.int v190_0), .val (.int v192_0), .val (.int (own_f9 ((p2 &&& (2147483647 : Int32)) % (65536 : Int32))))] [(.ref b322)])) _
        refine XS.dup X322.here hx rfl (hb hby at_441) rfl rfl ?_
        exact kt
      obtain ⟨T326, h326, X326, e326, E326, A326, D326, -, st326⟩ := newO X322 hx hZ hown (hw _ (List.mem_of_getElem? (i := 4) rfl)) (hw _ (List.mem_of_getElem? (i := 5) rfl)) (hw _ (List.mem_of_getElem? (i := 6) rfl)) e322 (g := (mkF m 442 #[.val (.int p1), .val (.int p2), .val (.int p3), .val (.ref b2), .val (.int v95_0), .val (.int (1 : Int32)), .val (.int (if (0 : Int32) < v190_0 then ((4 : Int32) + v190_0) else (4 : Int32))), .val (.int hs), .val (.int (hs + hh)), .val (.int ((p2 &&& (2147483647 : Int32)) % (65536 : Int32))), .val (.int (((hs + hh) + (1 : Int32)) + (own_f9 ((p2 &&& (2147483647 : Int32)) % (65536 : Int32))))), .val (.int (((hs + hh) + (1 : Int32)) + (own_f9 ((p2 &&& (2147483647 : Int32)) % (65536 : Int32))))), .val (.int hh), .val (.int v190_0), .val (.int v192_0), .val (.int (own_f9 ((p2 &&& (2147483647 : Int32)) % (65536 : Int32))))] [(.ref b322), (.ref b322)])) rfl (hb hby at_442) (by decide) (by decide)
      obtain ⟨b326, g326⟩ : ∃ z, z = h322.size := ⟨_, rfl⟩
      have ne_b2_b326 : b2 ≠ b326 := Nat.ne_of_lt (Nat.lt_of_lt_of_le V_b2_313_324.lt (Nat.le_of_eq g326.symm))
      have ne_b322_b326 : b322 ≠ b326 := Nat.ne_of_lt (Nat.lt_of_lt_of_le A322.lt (Nat.le_of_eq g326.symm))
      have g_b326 : n0 ≤ b326 := Nat.le_trans Z322 (Nat.le_of_eq g326.symm)
      have sz_b326 : h0.size ≤ b326 := Nat.le_trans K322.1 (Nat.le_of_eq g326.symm)
      rw [← g326] at A326 D326 st326
      have K326 : Keep h0 h326 [] := K322.ext E326
      have Z326 : n0 ≤ h326.size := Nat.le_trans Z322 E326.1
      have SCS_327 := SCS_323.ext E326
      have V_b2_313_328 := V_b2_313_324.ext E326
      have A322_329 := A322.ext E326
      have F_href_b322_330 := F_href_b322.ext E326
      have F_schemeEnd_b322_331 := F_schemeEnd_b322.ext E326
      have F_usernameEnd_b322_332 := F_usernameEnd_b322.ext E326
      have F_hostStart_b322_333 := F_hostStart_b322.ext E326
      have F_hostEnd_b322_334 := F_hostEnd_b322.ext E326
      have F_port_b322_335 := F_port_b322.ext E326
      have F_pathStart_b322_336 := F_pathStart_b322.ext E326
      have F_pathEnd_b322_337 := F_pathEnd_b322.ext E326
      have F_queryEnd_b322_338 := F_queryEnd_b322.ext E326
      have F_coder_b326 : Fld Z h326 b326 "java/lang/String" "coder" "B" (.int (0 : Int32)) := D326 (Or.inr (hw _ (List.mem_of_getElem? (i := 30) rfl))) (ty := .byte) (by decide)
      have F_value_b326 : Fld Z h326 b326 "java/lang/String" "value" "[B" .null := D326 (Or.inr (hw _ (List.mem_of_getElem? (i := 32) rfl))) (ty := (.array .byte)) (by decide)
      have pre326 : ∀ t, Steps p.tables e below (T326.setTop (mkF m 445 #[.val (.int p1), .val (.int p2), .val (.int p3), .val (.ref b2), .val (.int v95_0), .val (.int (1 : Int32)), .val (.int (if (0 : Int32) < v190_0 then ((4 : Int32) + v190_0) else (4 : Int32))), .val (.int hs), .val (.int (hs + hh)), .val (.int ((p2 &&& (2147483647 : Int32)) % (65536 : Int32))), .val (.int (((hs + hh) + (1 : Int32)) + (own_f9 ((p2 &&& (2147483647 : Int32)) % (65536 : Int32))))), .val (.int (((hs + hh) + (1 : Int32)) + (own_f9 ((p2 &&& (2147483647 : Int32)) % (65536 : Int32))))), .val (.int hh), .val (.int v190_0), .val (.int v192_0), .val (.int (own_f9 ((p2 &&& (2147483647 : Int32)) % (65536 : Int32))))] [(.ref b326), (.ref b322), (.ref b322)])) t → Steps p.tables e below (s₁.setTop (entryFrame m #[(.int p1), (.int p2), (.int p3)] maxLocals)) t := fun t kt => pre325 t (st326 _ kt)
      have pre339 : ∀ t, Steps p.tables e below (T326.setTop (mkF m 447 #[.val (.int p1), .val (.int p2), .val (.int p3), .val (.ref b2), .val (.int v95_0), .val (.int (1 : Int32)), .val (.int (if (0 : Int32) < v190_0 then ((4 : Int32) + v190_0) else (4 : Int32))), .val (.int hs), .val (.int (hs + hh)), .val (.int ((p2 &&& (2147483647 : Int32)) % (65536 : Int32))), .val (.int (((hs + hh) + (1 : Int32)) + (own_f9 ((p2 &&& (2147483647 : Int32)) % (65536 : Int32))))), .val (.int (((hs + hh) + (1 : Int32)) + (own_f9 ((p2 &&& (2147483647 : Int32)) % (65536 : Int32))))), .val (.int hh), .val (.int v190_0), .val (.int v192_0), .val (.int (own_f9 ((p2 &&& (2147483647 : Int32)) % (65536 : Int32))))] [(.ref b2), (.ref b326), (.ref b326), (.ref b322), (.ref b322)])) t → Steps p.tables e below (s₁.setTop (entryFrame m #[(.int p1), (.int p2), (.int p3)] maxLocals)) t := by
        intro t kt
        refine pre326 t ?_
        show Steps p.tables e below (T326.setTop (mkF m 445 #[.val (.int p1), .val (.int p2), .val (.int p3), .val (.ref b2), .val (.int v95_0), .val (.int (1 : Int32)), .val (.int (if (0 : Int32) < v190_0 then ((4 : Int32) + v190_0) else (4 : Int32))), .val (.int hs), .val (.int (hs + hh)), .val (.int ((p2 &&& (2147483647 : Int32)) % (65536 : Int32))), .val (.int (((hs + hh) + (1 : Int32)) + (own_f9 ((p2 &&& (2147483647 : Int32)) % (65536 : Int32))))), .val (.int (((hs + hh) + (1 : Int32)) + (own_f9 ((p2 &&& (2147483647 : Int32)) % (65536 : Int32))))), .val (.int hh), .val (.int v190_0), .val (.int v192_0), .val (.int (own_f9 ((p2 &&& (2147483647 : Int32)) % (65536 : Int32))))] [(.ref b326), (.ref b322), (.ref b322)])) _
        refine XS.dup X326.here hx rfl (hb hby at_445) rfl rfl ?_
        show Steps p.tables e below (T326.setTop (mkF m 446 #[.val (.int p1), .val (.int p2), .val (.int p3), .val (.ref b2), .val (.int v95_0), .val (.int (1 : Int32)), .val (.int (if (0 : Int32) < v190_0 then ((4 : Int32) + v190_0) else (4 : Int32))), .val (.int hs), .val (.int (hs + hh)), .val (.int ((p2 &&& (2147483647 : Int32)) % (65536 : Int32))), .val (.int (((hs + hh) + (1 : Int32)) + (own_f9 ((p2 &&& (2147483647 : Int32)) % (65536 : Int32))))), .val (.int (((hs + hh) + (1 : Int32)) + (own_f9 ((p2 &&& (2147483647 : Int32)) % (65536 : Int32))))), .val (.int hh), .val (.int v190_0), .val (.int v192_0), .val (.int (own_f9 ((p2 &&& (2147483647 : Int32)) % (65536 : Int32))))] [(.ref b326), (.ref b326), (.ref b322), (.ref b322)])) _
        refine XS.aloadN X326.here hx rfl (hb hby at_446) rfl rfl ?_
        exact kt
      obtain ⟨cs340, ecs340, hlen340, hcs340⟩ := ok318
      have VS340 := V_b2_313_328
      rw [ecs340] at VS340
      obtain ⟨_, _, ⟨T340, L340, k340, n340⟩, -, X340, ⟨Lc340, hQ340, l340, y340, z340⟩, st340⟩ := X326.specialBack hx (y := (⟨"java/lang/String", "<init>", "([C)V"⟩ : MethodName)) rfl hown (mvT hZ (hw _ (List.mem_of_getElem? (i := 7) rfl))) (mvT hZ (hw _ (List.mem_of_getElem? (i := 8) rfl))) (mvT hZ (hw _ (List.mem_of_getElem? (i := 9) rfl))) (by decide) (StrChars.Road.backV (W := 3) hZ hws (kI := 4) (hw _ (List.mem_of_getElem? (i := 5) rfl)) (cs := cs340) (bs := cs340.map (fun c => c.toInt8.toInt32)) (n := 20) g_b326 Z326 A326 F_value_b326 F_coder_b326 VS340 SCS_327 hCS hlen340 rfl (by decide) (by decide) hcs340 rfl (by decide) (by decide)) (g := (mkF m 447 #[.val (.int p1), .val (.int p2), .val (.int p3), .val (.ref b2), .val (.int v95_0), .val (.int (1 : Int32)), .val (.int (if (0 : Int32) < v190_0 then ((4 : Int32) + v190_0) else (4 : Int32))), .val (.int hs), .val (.int (hs + hh)), .val (.int ((p2 &&& (2147483647 : Int32)) % (65536 : Int32))), .val (.int (((hs + hh) + (1 : Int32)) + (own_f9 ((p2 &&& (2147483647 : Int32)) % (65536 : Int32))))), .val (.int (((hs + hh) + (1 : Int32)) + (own_f9 ((p2 &&& (2147483647 : Int32)) % (65536 : Int32))))), .val (.int hh), .val (.int v190_0), .val (.int v192_0), .val (.int (own_f9 ((p2 &&& (2147483647 : Int32)) % (65536 : Int32))))] [(.ref b2), (.ref b326), (.ref b326), (.ref b322), (.ref b322)])) rfl (by rw [hml]; rfl) (Steps.refl _) (a := b326) (argsL := [(.ref b2)]) (rest := [(.ref b326), (.ref b322), (.ref b322)]) (lenOf pd_0 rfl) rfl (by show 2 * 0 + _ ≤ _; exact Nat.le_of_eq rfl) (hb hby at_447) (fun _ _ => ⟨rfl, e326, (by decide : 3 + 1 ≤ _), (by decide : 33 + 20 ≤ _)⟩)
      dsimp only [Pt.U, Pt.locs, Pt.cells, Pt.slots] at X340 l340 y340 z340 st340 hQ340
      subst l340 y340 z340
      obtain ⟨rfl, N340q, KC340, EQ340, CQ340, tq340, kbq340, gq340, gr340, gs340, FQ340, VQ340⟩ := hQ340
      have N340 := Fr.app N317 N340q
      have Z340 : n0 ≤ T340.heap.size := Nat.le_trans Z326 KC340.1
      have K340 : Keep h0 T340.heap [] := K326.trans KC340 (allS (Or.inr sz_b326) all0)
      have SCS_341 := own_stak SCS_327 KC340 (nsS A326.nostat ns0)
      have V_b2_313_342 := V_b2_313_328.keep KC340 (ninS ne_b2_b326 nin0)
      have A322_343 := A322_329.keep KC340
      have F_href_b322_344 := F_href_b322_330.keep KC340 (ninS ne_b322_b326 nin0)
      have F_schemeEnd_b322_345 := F_schemeEnd_b322_331.keep KC340 (ninS ne_b322_b326 nin0)
      have F_usernameEnd_b322_346 := F_usernameEnd_b322_332.keep KC340 (ninS ne_b322_b326 nin0)
      have F_hostStart_b322_347 := F_hostStart_b322_333.keep KC340 (ninS ne_b322_b326 nin0)
      have F_hostEnd_b322_348 := F_hostEnd_b322_334.keep KC340 (ninS ne_b322_b326 nin0)
      have F_port_b322_349 := F_port_b322_335.keep KC340 (ninS ne_b322_b326 nin0)
      have F_pathStart_b322_350 := F_pathStart_b322_336.keep KC340 (ninS ne_b322_b326 nin0)
      have F_pathEnd_b322_351 := F_pathEnd_b322_337.keep KC340 (ninS ne_b322_b326 nin0)
      have F_queryEnd_b322_352 := F_queryEnd_b322_338.keep KC340 (ninS ne_b322_b326 nin0)
      have A326_353 := A326.keep KC340
      have pre340 : ∀ t, Steps p.tables e below (T340.setTop (mkF m 450 #[.val (.int p1), .val (.int p2), .val (.int p3), .val (.ref b2), .val (.int v95_0), .val (.int (1 : Int32)), .val (.int (if (0 : Int32) < v190_0 then ((4 : Int32) + v190_0) else (4 : Int32))), .val (.int hs), .val (.int (hs + hh)), .val (.int ((p2 &&& (2147483647 : Int32)) % (65536 : Int32))), .val (.int (((hs + hh) + (1 : Int32)) + (own_f9 ((p2 &&& (2147483647 : Int32)) % (65536 : Int32))))), .val (.int (((hs + hh) + (1 : Int32)) + (own_f9 ((p2 &&& (2147483647 : Int32)) % (65536 : Int32))))), .val (.int hh), .val (.int v190_0), .val (.int v192_0), .val (.int (own_f9 ((p2 &&& (2147483647 : Int32)) % (65536 : Int32))))] [(.ref b326), (.ref b322), (.ref b322)])) t → Steps p.tables e below (s₁.setTop (entryFrame m #[(.int p1), (.int p2), (.int p3)] maxLocals)) t := fun t kt => pre339 t (st340.trans kt)
      have pre356 : ∀ t, Steps p.tables e below (T340.setTop (mkF m 466 #[.val (.int p1), .val (.int p2), .val (.int p3), .val (.ref b2), .val (.int v95_0), .val (.int (1 : Int32)), .val (.int (if (0 : Int32) < v190_0 then ((4 : Int32) + v190_0) else (4 : Int32))), .val (.int hs), .val (.int (hs + hh)), .val (.int ((p2 &&& (2147483647 : Int32)) % (65536 : Int32))), .val (.int (((hs + hh) + (1 : Int32)) + (own_f9 ((p2 &&& (2147483647 : Int32)) % (65536 : Int32))))), .val (.int (((hs + hh) + (1 : Int32)) + (own_f9 ((p2 &&& (2147483647 : Int32)) % (65536 : Int32))))), .val (.int hh), .val (.int v190_0), .val (.int v192_0), .val (.int (own_f9 ((p2 &&& (2147483647 : Int32)) % (65536 : Int32))))] [(.int (20 : Int32)), (.int (20 : Int32)), (.int (((hs + hh) + (1 : Int32)) + (own_f9 ((p2 &&& (2147483647 : Int32)) % (65536 : Int32))))), (.int ((p2 &&& (2147483647 : Int32)) % (65536 : Int32))), (.int (hs + hh)), (.int hs), (.int (if (0 : Int32) < v190_0 then ((4 : Int32) + v190_0) else (4 : Int32))), (.int (1 : Int32)), (.ref b326), (.ref b322), (.ref b322)])) t → Steps p.tables e below (s₁.setTop (entryFrame m #[(.int p1), (.int p2), (.int p3)] maxLocals)) t := by
        intro t kt
        refine pre340 t ?_
        show Steps p.tables e below (T340.setTop (mkF m 450 #[.val (.int p1), .val (.int p2), .val (.int p3), .val (.ref b2), .val (.int v95_0), .val (.int (1 : Int32)), .val (.int (if (0 : Int32) < v190_0 then ((4 : Int32) + v190_0) else (4 : Int32))), .val (.int hs), .val (.int (hs + hh)), .val (.int ((p2 &&& (2147483647 : Int32)) % (65536 : Int32))), .val (.int (((hs + hh) + (1 : Int32)) + (own_f9 ((p2 &&& (2147483647 : Int32)) % (65536 : Int32))))), .val (.int (((hs + hh) + (1 : Int32)) + (own_f9 ((p2 &&& (2147483647 : Int32)) % (65536 : Int32))))), .val (.int hh), .val (.int v190_0), .val (.int v192_0), .val (.int (own_f9 ((p2 &&& (2147483647 : Int32)) % (65536 : Int32))))] [(.ref b326), (.ref b322), (.ref b322)])) _
        refine XS.iload X340.here hx rfl (hb hby at_450) rfl ?_
        show Steps p.tables e below (T340.setTop (mkF m 452 #[.val (.int p1), .val (.int p2), .val (.int p3), .val (.ref b2), .val (.int v95_0), .val (.int (1 : Int32)), .val (.int (if (0 : Int32) < v190_0 then ((4 : Int32) + v190_0) else (4 : Int32))), .val (.int hs), .val (.int (hs + hh)), .val (.int ((p2 &&& (2147483647 : Int32)) % (65536 : Int32))), .val (.int (((hs + hh) + (1 : Int32)) + (own_f9 ((p2 &&& (2147483647 : Int32)) % (65536 : Int32))))), .val (.int (((hs + hh) + (1 : Int32)) + (own_f9 ((p2 &&& (2147483647 : Int32)) % (65536 : Int32))))), .val (.int hh), .val (.int v190_0), .val (.int v192_0), .val (.int (own_f9 ((p2 &&& (2147483647 : Int32)) % (65536 : Int32))))] [(.int (1 : Int32)), (.ref b326), (.ref b322), (.ref b322)])) _
        refine XS.iload X340.here hx rfl (hb hby at_452) rfl ?_
        show Steps p.tables e below (T340.setTop (mkF m 454 #[.val (.int p1), .val (.int p2), .val (.int p3), .val (.ref b2), .val (.int v95_0), .val (.int (1 : Int32)), .val (.int (if (0 : Int32) < v190_0 then ((4 : Int32) + v190_0) else (4 : Int32))), .val (.int hs), .val (.int (hs + hh)), .val (.int ((p2 &&& (2147483647 : Int32)) % (65536 : Int32))), .val (.int (((hs + hh) + (1 : Int32)) + (own_f9 ((p2 &&& (2147483647 : Int32)) % (65536 : Int32))))), .val (.int (((hs + hh) + (1 : Int32)) + (own_f9 ((p2 &&& (2147483647 : Int32)) % (65536 : Int32))))), .val (.int hh), .val (.int v190_0), .val (.int v192_0), .val (.int (own_f9 ((p2 &&& (2147483647 : Int32)) % (65536 : Int32))))] [(.int (if (0 : Int32) < v190_0 then ((4 : Int32) + v190_0) else (4 : Int32))), (.int (1 : Int32)), (.ref b326), (.ref b322), (.ref b322)])) _
        refine XS.iload X340.here hx rfl (hb hby at_454) rfl ?_
        show Steps p.tables e below (T340.setTop (mkF m 456 #[.val (.int p1), .val (.int p2), .val (.int p3), .val (.ref b2), .val (.int v95_0), .val (.int (1 : Int32)), .val (.int (if (0 : Int32) < v190_0 then ((4 : Int32) + v190_0) else (4 : Int32))), .val (.int hs), .val (.int (hs + hh)), .val (.int ((p2 &&& (2147483647 : Int32)) % (65536 : Int32))), .val (.int (((hs + hh) + (1 : Int32)) + (own_f9 ((p2 &&& (2147483647 : Int32)) % (65536 : Int32))))), .val (.int (((hs + hh) + (1 : Int32)) + (own_f9 ((p2 &&& (2147483647 : Int32)) % (65536 : Int32))))), .val (.int hh), .val (.int v190_0), .val (.int v192_0), .val (.int (own_f9 ((p2 &&& (2147483647 : Int32)) % (65536 : Int32))))] [(.int hs), (.int (if (0 : Int32) < v190_0 then ((4 : Int32) + v190_0) else (4 : Int32))), (.int (1 : Int32)), (.ref b326), (.ref b322), (.ref b322)])) _
        refine XS.iload X340.here hx rfl (hb hby at_456) rfl ?_
        show Steps p.tables e below (T340.setTop (mkF m 458 #[.val (.int p1), .val (.int p2), .val (.int p3), .val (.ref b2), .val (.int v95_0), .val (.int (1 : Int32)), .val (.int (if (0 : Int32) < v190_0 then ((4 : Int32) + v190_0) else (4 : Int32))), .val (.int hs), .val (.int (hs + hh)), .val (.int ((p2 &&& (2147483647 : Int32)) % (65536 : Int32))), .val (.int (((hs + hh) + (1 : Int32)) + (own_f9 ((p2 &&& (2147483647 : Int32)) % (65536 : Int32))))), .val (.int (((hs + hh) + (1 : Int32)) + (own_f9 ((p2 &&& (2147483647 : Int32)) % (65536 : Int32))))), .val (.int hh), .val (.int v190_0), .val (.int v192_0), .val (.int (own_f9 ((p2 &&& (2147483647 : Int32)) % (65536 : Int32))))] [(.int (hs + hh)), (.int hs), (.int (if (0 : Int32) < v190_0 then ((4 : Int32) + v190_0) else (4 : Int32))), (.int (1 : Int32)), (.ref b326), (.ref b322), (.ref b322)])) _
        refine XS.iload X340.here hx rfl (hb hby at_458) rfl ?_
        show Steps p.tables e below (T340.setTop (mkF m 460 #[.val (.int p1), .val (.int p2), .val (.int p3), .val (.ref b2), .val (.int v95_0), .val (.int (1 : Int32)), .val (.int (if (0 : Int32) < v190_0 then ((4 : Int32) + v190_0) else (4 : Int32))), .val (.int hs), .val (.int (hs + hh)), .val (.int ((p2 &&& (2147483647 : Int32)) % (65536 : Int32))), .val (.int (((hs + hh) + (1 : Int32)) + (own_f9 ((p2 &&& (2147483647 : Int32)) % (65536 : Int32))))), .val (.int (((hs + hh) + (1 : Int32)) + (own_f9 ((p2 &&& (2147483647 : Int32)) % (65536 : Int32))))), .val (.int hh), .val (.int v190_0), .val (.int v192_0), .val (.int (own_f9 ((p2 &&& (2147483647 : Int32)) % (65536 : Int32))))] [(.int ((p2 &&& (2147483647 : Int32)) % (65536 : Int32))), (.int (hs + hh)), (.int hs), (.int (if (0 : Int32) < v190_0 then ((4 : Int32) + v190_0) else (4 : Int32))), (.int (1 : Int32)), (.ref b326), (.ref b322), (.ref b322)])) _
        refine XS.iload X340.here hx rfl (hb hby at_460) rfl ?_
        show Steps p.tables e below (T340.setTop (mkF m 462 #[.val (.int p1), .val (.int p2), .val (.int p3), .val (.ref b2), .val (.int v95_0), .val (.int (1 : Int32)), .val (.int (if (0 : Int32) < v190_0 then ((4 : Int32) + v190_0) else (4 : Int32))), .val (.int hs), .val (.int (hs + hh)), .val (.int ((p2 &&& (2147483647 : Int32)) % (65536 : Int32))), .val (.int (((hs + hh) + (1 : Int32)) + (own_f9 ((p2 &&& (2147483647 : Int32)) % (65536 : Int32))))), .val (.int (((hs + hh) + (1 : Int32)) + (own_f9 ((p2 &&& (2147483647 : Int32)) % (65536 : Int32))))), .val (.int hh), .val (.int v190_0), .val (.int v192_0), .val (.int (own_f9 ((p2 &&& (2147483647 : Int32)) % (65536 : Int32))))] [(.int (((hs + hh) + (1 : Int32)) + (own_f9 ((p2 &&& (2147483647 : Int32)) % (65536 : Int32))))), (.int ((p2 &&& (2147483647 : Int32)) % (65536 : Int32))), (.int (hs + hh)), (.int hs), (.int (if (0 : Int32) < v190_0 then ((4 : Int32) + v190_0) else (4 : Int32))), (.int (1 : Int32)), (.ref b326), (.ref b322), (.ref b322)])) _
        refine XS.bipush X340.here hx rfl (hb hby at_462) ?_
        show Steps p.tables e below (T340.setTop (mkF m 464 #[.val (.int p1), .val (.int p2), .val (.int p3), .val (.ref b2), .val (.int v95_0), .val (.int (1 : Int32)), .val (.int (if (0 : Int32) < v190_0 then ((4 : Int32) + v190_0) else (4 : Int32))), .val (.int hs), .val (.int (hs + hh)), .val (.int ((p2 &&& (2147483647 : Int32)) % (65536 : Int32))), .val (.int (((hs + hh) + (1 : Int32)) + (own_f9 ((p2 &&& (2147483647 : Int32)) % (65536 : Int32))))), .val (.int (((hs + hh) + (1 : Int32)) + (own_f9 ((p2 &&& (2147483647 : Int32)) % (65536 : Int32))))), .val (.int hh), .val (.int v190_0), .val (.int v192_0), .val (.int (own_f9 ((p2 &&& (2147483647 : Int32)) % (65536 : Int32))))] [(.int (20 : Int32)), (.int (((hs + hh) + (1 : Int32)) + (own_f9 ((p2 &&& (2147483647 : Int32)) % (65536 : Int32))))), (.int ((p2 &&& (2147483647 : Int32)) % (65536 : Int32))), (.int (hs + hh)), (.int hs), (.int (if (0 : Int32) < v190_0 then ((4 : Int32) + v190_0) else (4 : Int32))), (.int (1 : Int32)), (.ref b326), (.ref b322), (.ref b322)])) _
        refine XS.bipush X340.here hx rfl (hb hby at_464) ?_
        exact kt
      obtain ⟨_, _, ⟨T357, L357, k357, n357⟩, -, X357, ⟨Lc357, hQ357, l357, y357, z357⟩, st357⟩ := X340.specialBack hx (y := (⟨"com/example/meyrin/meyrin/Url", "<init>", "(Ljava/lang/String;IIIIIIII)V"⟩ : MethodName)) rfl hown (mvT hZ (hw _ (List.mem_of_getElem? (i := 33) rfl))) (mvT hZ (hw _ (List.mem_of_getElem? (i := 34) rfl))) (mvT hZ (hw _ (List.mem_of_getElem? (i := 35) rfl))) (by decide) (backOf (W := 1) (rm7 l Z a0 hw [] b322 b326 (1 : Int32) (if (0 : Int32) < v190_0 then ((4 : Int32) + v190_0) else (4 : Int32)) hs (hs + hh) ((p2 &&& (2147483647 : Int32)) % (65536 : Int32)) (((hs + hh) + (1 : Int32)) + (own_f9 ((p2 &&& (2147483647 : Int32)) % (65536 : Int32)))) (20 : Int32) (20 : Int32) T340.heap n0 Z340 A322_343 F_href_b322_344 F_schemeEnd_b322_345 F_usernameEnd_b322_346 F_hostStart_b322_347 F_hostEnd_b322_348 F_port_b322_349 F_pathStart_b322_350 F_pathEnd_b322_351 F_queryEnd_b322_352 g_b322) hZ (hw _ (List.mem_of_getElem? (i := 35) rfl)) (hw _ (List.mem_of_getElem? (i := 3) rfl)) (by decide) (by decide)) (g := (mkF m 466 #[.val (.int p1), .val (.int p2), .val (.int p3), .val (.ref b2), .val (.int v95_0), .val (.int (1 : Int32)), .val (.int (if (0 : Int32) < v190_0 then ((4 : Int32) + v190_0) else (4 : Int32))), .val (.int hs), .val (.int (hs + hh)), .val (.int ((p2 &&& (2147483647 : Int32)) % (65536 : Int32))), .val (.int (((hs + hh) + (1 : Int32)) + (own_f9 ((p2 &&& (2147483647 : Int32)) % (65536 : Int32))))), .val (.int (((hs + hh) + (1 : Int32)) + (own_f9 ((p2 &&& (2147483647 : Int32)) % (65536 : Int32))))), .val (.int hh), .val (.int v190_0), .val (.int v192_0), .val (.int (own_f9 ((p2 &&& (2147483647 : Int32)) % (65536 : Int32))))] [(.int (20 : Int32)), (.int (20 : Int32)), (.int (((hs + hh) + (1 : Int32)) + (own_f9 ((p2 &&& (2147483647 : Int32)) % (65536 : Int32))))), (.int ((p2 &&& (2147483647 : Int32)) % (65536 : Int32))), (.int (hs + hh)), (.int hs), (.int (if (0 : Int32) < v190_0 then ((4 : Int32) + v190_0) else (4 : Int32))), (.int (1 : Int32)), (.ref b326), (.ref b322), (.ref b322)])) rfl (by rw [hml]; rfl) (Steps.refl _) (a := b322) (argsL := [(.ref b326), (.int (1 : Int32)), (.int (if (0 : Int32) < v190_0 then ((4 : Int32) + v190_0) else (4 : Int32))), (.int hs), (.int (hs + hh)), (.int ((p2 &&& (2147483647 : Int32)) % (65536 : Int32))), (.int (((hs + hh) + (1 : Int32)) + (own_f9 ((p2 &&& (2147483647 : Int32)) % (65536 : Int32))))), (.int (20 : Int32)), (.int (20 : Int32))]) (rest := [(.ref b322)]) (lenOf pd_1 rfl) rfl (by show 2 * 0 + _ ≤ _; exact Nat.le_of_eq rfl) (hb hby at_466) (fun _ _ => ⟨rfl, rfl, (by decide : 4 + 0 ≤ _), (by decide : 53 + 0 ≤ _)⟩)
      dsimp only [Pt.U, Pt.locs, Pt.cells, Pt.slots] at X357 l357 y357 z357 st357 hQ357
      subst l357 y357 z357
      obtain ⟨rfl, N357q, KC357, P357_0, P357_1, P357_2, P357_3⟩ := hQ357
      have N357 := Fr.app N340 N357q
      have Z357 : n0 ≤ T357.heap.size := Nat.le_trans Z340 KC357.1
      have K357 : Keep h0 T357.heap [] := K340.trans KC357 (allS (Or.inr sz_b322) all0)
      have SCS_358 := own_stak SCS_341 KC357 (nsS A322_343.nostat ns0)
      have V_b2_313_359 := V_b2_313_342.keep KC357 (ninS ne_b2_b322 nin0)
      have A322_360 := A322_343.keep KC357
      have A326_370 := A326_353.keep KC357
      have E_b322_357 : Exa Z T357.heap b322 "com/example/meyrin/meyrin/Url" := P357_0
      have F_hostEnd_b322_357 : Fld Z T357.heap b322 "com/example/meyrin/meyrin/Url" "hostEnd" "I" (.int (hs + hh)) := P357_1
      have F_port_b322_357 : Fld Z T357.heap b322 "com/example/meyrin/meyrin/Url" "port" "I" (.int ((p2 &&& (2147483647 : Int32)) % (65536 : Int32))) := P357_2
      have F_pathStart_b322_357 : Fld Z T357.heap b322 "com/example/meyrin/meyrin/Url" "pathStart" "I" (.int (((hs + hh) + (1 : Int32)) + (own_f9 ((p2 &&& (2147483647 : Int32)) % (65536 : Int32))))) := P357_3
      have pre357 : ∀ t, Steps p.tables e below (T357.setTop (mkF m 469 #[.val (.int p1), .val (.int p2), .val (.int p3), .val (.ref b2), .val (.int v95_0), .val (.int (1 : Int32)), .val (.int (if (0 : Int32) < v190_0 then ((4 : Int32) + v190_0) else (4 : Int32))), .val (.int hs), .val (.int (hs + hh)), .val (.int ((p2 &&& (2147483647 : Int32)) % (65536 : Int32))), .val (.int (((hs + hh) + (1 : Int32)) + (own_f9 ((p2 &&& (2147483647 : Int32)) % (65536 : Int32))))), .val (.int (((hs + hh) + (1 : Int32)) + (own_f9 ((p2 &&& (2147483647 : Int32)) % (65536 : Int32))))), .val (.int hh), .val (.int v190_0), .val (.int v192_0), .val (.int (own_f9 ((p2 &&& (2147483647 : Int32)) % (65536 : Int32))))] [(.ref b322)])) t → Steps p.tables e below (s₁.setTop (entryFrame m #[(.int p1), (.int p2), (.int p3)] maxLocals)) t := fun t kt => pre356 t (st357.trans kt)
      have pre371 : ∀ t, Steps p.tables e below (T357.setTop (mkF m 473 #[.val (.int p1), .val (.int p2), .val (.int p3), .val (.ref b2), .val (.int v95_0), .val (.int (1 : Int32)), .val (.int (if (0 : Int32) < v190_0 then ((4 : Int32) + v190_0) else (4 : Int32))), .val (.int hs), .val (.int (hs + hh)), .val (.int ((p2 &&& (2147483647 : Int32)) % (65536 : Int32))), .val (.int (((hs + hh) + (1 : Int32)) + (own_f9 ((p2 &&& (2147483647 : Int32)) % (65536 : Int32))))), .val (.int (((hs + hh) + (1 : Int32)) + (own_f9 ((p2 &&& (2147483647 : Int32)) % (65536 : Int32))))), .val (.ref b322), .val (.int v190_0), .val (.int v192_0), .val (.int (own_f9 ((p2 &&& (2147483647 : Int32)) % (65536 : Int32))))] [(.ref b322)])) t → Steps p.tables e below (s₁.setTop (entryFrame m #[(.int p1), (.int p2), (.int p3)] maxLocals)) t := by
        intro t kt
        refine pre357 t ?_
        show Steps p.tables e below (T357.setTop (mkF m 469 #[.val (.int p1), .val (.int p2), .val (.int p3), .val (.ref b2), .val (.int v95_0), .val (.int (1 : Int32)), .val (.int (if (0 : Int32) < v190_0 then ((4 : Int32) + v190_0) else (4 : Int32))), .val (.int hs), .val (.int (hs + hh)), .val (.int ((p2 &&& (2147483647 : Int32)) % (65536 : Int32))), .val (.int (((hs + hh) + (1 : Int32)) + (own_f9 ((p2 &&& (2147483647 : Int32)) % (65536 : Int32))))), .val (.int (((hs + hh) + (1 : Int32)) + (own_f9 ((p2 &&& (2147483647 : Int32)) % (65536 : Int32))))), .val (.int hh), .val (.int v190_0), .val (.int v192_0), .val (.int (own_f9 ((p2 &&& (2147483647 : Int32)) % (65536 : Int32))))] [(.ref b322)])) _
        refine XS.astore X357.here hx rfl (hb hby at_469) rfl rfl (l' := #[.val (.int p1), .val (.int p2), .val (.int p3), .val (.ref b2), .val (.int v95_0), .val (.int (1 : Int32)), .val (.int (if (0 : Int32) < v190_0 then ((4 : Int32) + v190_0) else (4 : Int32))), .val (.int hs), .val (.int (hs + hh)), .val (.int ((p2 &&& (2147483647 : Int32)) % (65536 : Int32))), .val (.int (((hs + hh) + (1 : Int32)) + (own_f9 ((p2 &&& (2147483647 : Int32)) % (65536 : Int32))))), .val (.int (((hs + hh) + (1 : Int32)) + (own_f9 ((p2 &&& (2147483647 : Int32)) % (65536 : Int32))))), .val (.ref b322), .val (.int v190_0), .val (.int v192_0), .val (.int (own_f9 ((p2 &&& (2147483647 : Int32)) % (65536 : Int32))))]) rfl ?_
        show Steps p.tables e below (T357.setTop (mkF m 471 #[.val (.int p1), .val (.int p2), .val (.int p3), .val (.ref b2), .val (.int v95_0), .val (.int (1 : Int32)), .val (.int (if (0 : Int32) < v190_0 then ((4 : Int32) + v190_0) else (4 : Int32))), .val (.int hs), .val (.int (hs + hh)), .val (.int ((p2 &&& (2147483647 : Int32)) % (65536 : Int32))), .val (.int (((hs + hh) + (1 : Int32)) + (own_f9 ((p2 &&& (2147483647 : Int32)) % (65536 : Int32))))), .val (.int (((hs + hh) + (1 : Int32)) + (own_f9 ((p2 &&& (2147483647 : Int32)) % (65536 : Int32))))), .val (.ref b322), .val (.int v190_0), .val (.int v192_0), .val (.int (own_f9 ((p2 &&& (2147483647 : Int32)) % (65536 : Int32))))] [])) _
        refine XS.aload X357.here hx rfl (hb hby at_471) rfl rfl ?_
        exact kt
      obtain ⟨cq372, kq372, q372a, q372b, q372c⟩ := isOf hZ rfl E_b322_357
      obtain ⟨_, _, ⟨T372, L372, k372, n372⟩, -, X372, ⟨Lc372, hQ372, l372, y372, z372⟩, st372⟩ := X357.virtualBack hx (y := (⟨"com/example/meyrin/meyrin/Url", "authorityEnd", "()I"⟩ : MethodName)) (z := (⟨"com/example/meyrin/meyrin/Url", "authorityEnd", "()I"⟩ : MethodName)) hown (mvT hZ (hw _ (List.mem_of_getElem? (i := 55) rfl))) (mvT hZ (hw _ (List.mem_of_getElem? (i := 56) rfl))) (notFace_of_selects (args := #[]) (mvT hZ (hw _ (List.mem_of_getElem? (i := 58) rfl)))) (mvT hZ (hw _ (List.mem_of_getElem? (i := 58) rfl))) (mvT hZ (hw _ (List.mem_of_getElem? (i := 57) rfl))) (by decide) (backOf (W := 0) (rm8 l Z a0 hw [] b322 ((p2 &&& (2147483647 : Int32)) % (65536 : Int32)) (hs + hh) (((hs + hh) + (1 : Int32)) + (own_f9 ((p2 &&& (2147483647 : Int32)) % (65536 : Int32)))) T357.heap n0 Z357 F_port_b322_357 F_hostEnd_b322_357 F_pathStart_b322_357) hZ (hw _ (List.mem_of_getElem? (i := 59) rfl)) (hw _ (List.mem_of_getElem? (i := 3) rfl)) (by decide) (by decide)) q372a q372c (g := (mkF m 473 #[.val (.int p1), .val (.int p2), .val (.int p3), .val (.ref b2), .val (.int v95_0), .val (.int (1 : Int32)), .val (.int (if (0 : Int32) < v190_0 then ((4 : Int32) + v190_0) else (4 : Int32))), .val (.int hs), .val (.int (hs + hh)), .val (.int ((p2 &&& (2147483647 : Int32)) % (65536 : Int32))), .val (.int (((hs + hh) + (1 : Int32)) + (own_f9 ((p2 &&& (2147483647 : Int32)) % (65536 : Int32))))), .val (.int (((hs + hh) + (1 : Int32)) + (own_f9 ((p2 &&& (2147483647 : Int32)) % (65536 : Int32))))), .val (.ref b322), .val (.int v190_0), .val (.int v192_0), .val (.int (own_f9 ((p2 &&& (2147483647 : Int32)) % (65536 : Int32))))] [(.ref b322)])) rfl (by rw [hml]; rfl) (Steps.refl _) (argsL := []) (rest := []) (lenOf pd_2 rfl) rfl (by show 2 * 0 + _ ≤ _; exact Nat.le_of_eq rfl) (hb hby at_473) (fun _ _ => ⟨rfl, rfl, (by decide : 4 + 0 ≤ _), (by decide : 53 + 0 ≤ _)⟩)
      dsimp only [Pt.U, Pt.locs, Pt.cells, Pt.slots] at X372 l372 y372 z372 st372 hQ372
      subst l372 y372 z372
      obtain ⟨rfl, N372q, e372⟩ := hQ372
      have N372 := Fr.app N357 N372q
      have pre372 : ∀ t, Steps p.tables e below (T372.setTop (mkF m 476 #[.val (.int p1), .val (.int p2), .val (.int p3), .val (.ref b2), .val (.int v95_0), .val (.int (1 : Int32)), .val (.int (if (0 : Int32) < v190_0 then ((4 : Int32) + v190_0) else (4 : Int32))), .val (.int hs), .val (.int (hs + hh)), .val (.int ((p2 &&& (2147483647 : Int32)) % (65536 : Int32))), .val (.int (((hs + hh) + (1 : Int32)) + (own_f9 ((p2 &&& (2147483647 : Int32)) % (65536 : Int32))))), .val (.int (((hs + hh) + (1 : Int32)) + (own_f9 ((p2 &&& (2147483647 : Int32)) % (65536 : Int32))))), .val (.ref b322), .val (.int v190_0), .val (.int v192_0), .val (.int (own_f9 ((p2 &&& (2147483647 : Int32)) % (65536 : Int32))))] [(.int (if ((p2 &&& (2147483647 : Int32)) % (65536 : Int32)) < (0 : Int32) then (hs + hh) else (((hs + hh) + (1 : Int32)) + (own_f9 ((p2 &&& (2147483647 : Int32)) % (65536 : Int32))))))])) t → Steps p.tables e below (s₁.setTop (entryFrame m #[(.int p1), (.int p2), (.int p3)] maxLocals)) t := fun t kt => pre371 t (st372.trans kt)
      have pre373 : ∀ t, Steps p.tables e below (T372.setTop (mkF m 478 #[.val (.int p1), .val (.int p2), .val (.int p3), .val (.ref b2), .val (.int v95_0), .val (.int (1 : Int32)), .val (.int (if (0 : Int32) < v190_0 then ((4 : Int32) + v190_0) else (4 : Int32))), .val (.int hs), .val (.int (hs + hh)), .val (.int ((p2 &&& (2147483647 : Int32)) % (65536 : Int32))), .val (.int (((hs + hh) + (1 : Int32)) + (own_f9 ((p2 &&& (2147483647 : Int32)) % (65536 : Int32))))), .val (.int (((hs + hh) + (1 : Int32)) + (own_f9 ((p2 &&& (2147483647 : Int32)) % (65536 : Int32))))), .val (.ref b322), .val (.int v190_0), .val (.int v192_0), .val (.int (own_f9 ((p2 &&& (2147483647 : Int32)) % (65536 : Int32))))] [(.int (((hs + hh) + (1 : Int32)) + (own_f9 ((p2 &&& (2147483647 : Int32)) % (65536 : Int32))))), (.int (if ((p2 &&& (2147483647 : Int32)) % (65536 : Int32)) < (0 : Int32) then (hs + hh) else (((hs + hh) + (1 : Int32)) + (own_f9 ((p2 &&& (2147483647 : Int32)) % (65536 : Int32))))))])) t → Steps p.tables e below (s₁.setTop (entryFrame m #[(.int p1), (.int p2), (.int p3)] maxLocals)) t := by
        intro t kt
        refine pre372 t ?_
        show Steps p.tables e below (T372.setTop (mkF m 476 #[.val (.int p1), .val (.int p2), .val (.int p3), .val (.ref b2), .val (.int v95_0), .val (.int (1 : Int32)), .val (.int (if (0 : Int32) < v190_0 then ((4 : Int32) + v190_0) else (4 : Int32))), .val (.int hs), .val (.int (hs + hh)), .val (.int ((p2 &&& (2147483647 : Int32)) % (65536 : Int32))), .val (.int (((hs + hh) + (1 : Int32)) + (own_f9 ((p2 &&& (2147483647 : Int32)) % (65536 : Int32))))), .val (.int (((hs + hh) + (1 : Int32)) + (own_f9 ((p2 &&& (2147483647 : Int32)) % (65536 : Int32))))), .val (.ref b322), .val (.int v190_0), .val (.int v192_0), .val (.int (own_f9 ((p2 &&& (2147483647 : Int32)) % (65536 : Int32))))] [(.int (if ((p2 &&& (2147483647 : Int32)) % (65536 : Int32)) < (0 : Int32) then (hs + hh) else (((hs + hh) + (1 : Int32)) + (own_f9 ((p2 &&& (2147483647 : Int32)) % (65536 : Int32))))))])) _
        refine XS.iload X372.here hx rfl (hb hby at_476) rfl ?_
        exact kt
      obtain ⟨v374_0, hv374_0, pre374⟩ : ∃ (v374_0 : Int32), v374_0 = (if (if ((p2 &&& (2147483647 : Int32)) % (65536 : Int32)) < (0 : Int32) then (hs + hh) else (((hs + hh) + (1 : Int32)) + (own_f9 ((p2 &&& (2147483647 : Int32)) % (65536 : Int32))))) = (((hs + hh) + (1 : Int32)) + (own_f9 ((p2 &&& (2147483647 : Int32)) % (65536 : Int32)))) then (1 : Int32) else (0 : Int32)) ∧ ∀ t, Steps p.tables e below (T372.setTop (mkF m 486 #[.val (.int p1), .val (.int p2), .val (.int p3), .val (.ref b2), .val (.int v95_0), .val (.int (1 : Int32)), .val (.int (if (0 : Int32) < v190_0 then ((4 : Int32) + v190_0) else (4 : Int32))), .val (.int hs), .val (.int (hs + hh)), .val (.int ((p2 &&& (2147483647 : Int32)) % (65536 : Int32))), .val (.int (((hs + hh) + (1 : Int32)) + (own_f9 ((p2 &&& (2147483647 : Int32)) % (65536 : Int32))))), .val (.int (((hs + hh) + (1 : Int32)) + (own_f9 ((p2 &&& (2147483647 : Int32)) % (65536 : Int32))))), .val (.ref b322), .val (.int v190_0), .val (.int v192_0), .val (.int (own_f9 ((p2 &&& (2147483647 : Int32)) % (65536 : Int32))))] [(.int v374_0)])) t → Steps p.tables e below (s₁.setTop (entryFrame m #[(.int p1), (.int p2), (.int p3)] maxLocals)) t := by
        refine ⟨_, rfl, ?_⟩
        intro t kt
        refine pre373 t ?_
        show Steps p.tables e below (T372.setTop (mkF m 478 #[.val (.int p1), .val (.int p2), .val (.int p3), .val (.ref b2), .val (.int v95_0), .val (.int (1 : Int32)), .val (.int (if (0 : Int32) < v190_0 then ((4 : Int32) + v190_0) else (4 : Int32))), .val (.int hs), .val (.int (hs + hh)), .val (.int ((p2 &&& (2147483647 : Int32)) % (65536 : Int32))), .val (.int (((hs + hh) + (1 : Int32)) + (own_f9 ((p2 &&& (2147483647 : Int32)) % (65536 : Int32))))), .val (.int (((hs + hh) + (1 : Int32)) + (own_f9 ((p2 &&& (2147483647 : Int32)) % (65536 : Int32))))), .val (.ref b322), .val (.int v190_0), .val (.int v192_0), .val (.int (own_f9 ((p2 &&& (2147483647 : Int32)) % (65536 : Int32))))] [(.int (((hs + hh) + (1 : Int32)) + (own_f9 ((p2 &&& (2147483647 : Int32)) % (65536 : Int32))))), (.int (if ((p2 &&& (2147483647 : Int32)) % (65536 : Int32)) < (0 : Int32) then (hs + hh) else (((hs + hh) + (1 : Int32)) + (own_f9 ((p2 &&& (2147483647 : Int32)) % (65536 : Int32))))))])) _
        by_cases hc478 : (if ((p2 &&& (2147483647 : Int32)) % (65536 : Int32)) < (0 : Int32) then (hs + hh) else (((hs + hh) + (1 : Int32)) + (own_f9 ((p2 &&& (2147483647 : Int32)) % (65536 : Int32))))) = (((hs + hh) + (1 : Int32)) + (own_f9 ((p2 &&& (2147483647 : Int32)) % (65536 : Int32))))
        · (try simp only [if_pos hc478] at kt)
          refine XS.icmpNo X372.here hx rfl (hb hby at_478) rfl (teq hc478).2 ?_
          show Steps p.tables e below (T372.setTop (mkF m 481 #[.val (.int p1), .val (.int p2), .val (.int p3), .val (.ref b2), .val (.int v95_0), .val (.int (1 : Int32)), .val (.int (if (0 : Int32) < v190_0 then ((4 : Int32) + v190_0) else (4 : Int32))), .val (.int hs), .val (.int (hs + hh)), .val (.int ((p2 &&& (2147483647 : Int32)) % (65536 : Int32))), .val (.int (((hs + hh) + (1 : Int32)) + (own_f9 ((p2 &&& (2147483647 : Int32)) % (65536 : Int32))))), .val (.int (((hs + hh) + (1 : Int32)) + (own_f9 ((p2 &&& (2147483647 : Int32)) % (65536 : Int32))))), .val (.ref b322), .val (.int v190_0), .val (.int v192_0), .val (.int (own_f9 ((p2 &&& (2147483647 : Int32)) % (65536 : Int32))))] [])) _
          refine XS.iconst X372.here hx rfl (hb hby at_481) ?_
          show Steps p.tables e below (T372.setTop (mkF m 482 #[.val (.int p1), .val (.int p2), .val (.int p3), .val (.ref b2), .val (.int v95_0), .val (.int (1 : Int32)), .val (.int (if (0 : Int32) < v190_0 then ((4 : Int32) + v190_0) else (4 : Int32))), .val (.int hs), .val (.int (hs + hh)), .val (.int ((p2 &&& (2147483647 : Int32)) % (65536 : Int32))), .val (.int (((hs + hh) + (1 : Int32)) + (own_f9 ((p2 &&& (2147483647 : Int32)) % (65536 : Int32))))), .val (.int (((hs + hh) + (1 : Int32)) + (own_f9 ((p2 &&& (2147483647 : Int32)) % (65536 : Int32))))), .val (.ref b322), .val (.int v190_0), .val (.int v192_0), .val (.int (own_f9 ((p2 &&& (2147483647 : Int32)) % (65536 : Int32))))] [(.int (1 : Int32))])) _
          refine XS.goto X372.here hx rfl (pc0 := 482) (pc' := 486) rfl (hb hby at_482) (by decide) (by decide) ?_
          exact kt
        · (try simp only [if_neg hc478] at kt)
          refine XS.icmpYes X372.here hx rfl (pc0 := 478) (pc' := 485) rfl (hb hby at_478) rfl (feq hc478).2 (by decide) (by decide) ?_
          show Steps p.tables e below (T372.setTop (mkF m 485 #[.val (.int p1), .val (.int p2), .val (.int p3), .val (.ref b2), .val (.int v95_0), .val (.int (1 : Int32)), .val (.int (if (0 : Int32) < v190_0 then ((4 : Int32) + v190_0) else (4 : Int32))), .val (.int hs), .val (.int (hs + hh)), .val (.int ((p2 &&& (2147483647 : Int32)) % (65536 : Int32))), .val (.int (((hs + hh) + (1 : Int32)) + (own_f9 ((p2 &&& (2147483647 : Int32)) % (65536 : Int32))))), .val (.int (((hs + hh) + (1 : Int32)) + (own_f9 ((p2 &&& (2147483647 : Int32)) % (65536 : Int32))))), .val (.ref b322), .val (.int v190_0), .val (.int v192_0), .val (.int (own_f9 ((p2 &&& (2147483647 : Int32)) % (65536 : Int32))))] [])) _
          refine XS.iconst X372.here hx rfl (hb hby at_485) ?_
          exact kt
      have hfin : v374_0 = 1 := by
        rw [hv374_0]
        first | (rw [if_pos (if_pos (by decide))]; done) | (rw [if_pos (if_neg (own_pn p2))]; done)
      obtain ⟨fs, hr, hrun, hended, hW, hsame⟩ := X372.leave (v := some (.int (1 : Int32))) (fun h => by rw [Bd.returns] at h; cases h)
      refine ⟨_, _, pre374 _ ?_, hrun, hended, _, _, rfl, ?_, ⟨_, rfl⟩, hW, hsame.mono (by decide) (by decide)⟩
      · show Steps p.tables e below (T372.setTop (mkF m 486 #[.val (.int p1), .val (.int p2), .val (.int p3), .val (.ref b2), .val (.int v95_0), .val (.int (1 : Int32)), .val (.int (if (0 : Int32) < v190_0 then ((4 : Int32) + v190_0) else (4 : Int32))), .val (.int hs), .val (.int (hs + hh)), .val (.int ((p2 &&& (2147483647 : Int32)) % (65536 : Int32))), .val (.int (((hs + hh) + (1 : Int32)) + (own_f9 ((p2 &&& (2147483647 : Int32)) % (65536 : Int32))))), .val (.int (((hs + hh) + (1 : Int32)) + (own_f9 ((p2 &&& (2147483647 : Int32)) % (65536 : Int32))))), .val (.ref b322), .val (.int v190_0), .val (.int v192_0), .val (.int (own_f9 ((p2 &&& (2147483647 : Int32)) % (65536 : Int32))))] [(.int v374_0)])) _
        rw [hfin]
        exact retN X372 hx (t := .boolean) Bd.returns (by simp) (hb hby at_486) hr
      · show Q0 n0 _ T372.heap _
        rw [e372]
        exact ⟨rfl, N372⟩
set_option maxRecDepth 65536 in
set_option maxHeartbeats 40000000 in
theorem comes_1 {Post : Tables → Env → Array Value → State → Outcome → State → Prop} (hpost : ∀ tb e args s v u, (limb_1_1.after args s (.returned v) u = true ∧ limb_1_2.after args s (.returned v) u = true ∧ True) → FrameEnd s (.returned v) u (Jvm.fieldLocs frame_1_writes args s ++ Jvm.arrayLocs frame_1_arrays args s ++ Jvm.staticLocs frame_1_statics s) 16 192 → Post tb e args s (.returned v) u) :
    ArmFor flags0 classFile x code maxLocals ret World_1 tables_1 room_1 Calls_1 rest_1 Pre_1 Post := by
  intro l hfl _ _ p e ha hc hk s m args below hf hA hF happ hP
  obtain ⟨hcalls, hrest, hpre⟩ := hP
  obtain ⟨-, -, -, hnamed, -, -, -, hat⟩ := (Spec.applies_iff hf).mp happ
  obtain ⟨hg, hn⟩ := and_e (Cond.before_iff.mp (show (Jvm.Cond.and given_1 narrow_1).before args s = true from hpre))
  obtain ⟨g1, g2⟩ := and_e hg
  obtain ⟨g3, g4⟩ := and_e g2
  obtain ⟨g5, g6⟩ := and_e g4
  obtain ⟨w0, w1, w2, rfl⟩ : ∃ w0 w1 w2 : Value, args = #[w0, w1, w2] := by
    have hs : args.size = 3 := by simpa [Cond.value, given_1] using g1
    obtain ⟨L⟩ := args
    match L, hs with
    | [w0, w1, w2], _ => exact ⟨w0, w1, w2, rfl⟩
  have hw := fun d (hd : d ∈ tables_1) => atoms_spec (ws := Jvm.Cond.code x code maxLocals ret :: tables_1) hat d (List.mem_cons_of_mem _ hd)
  have hfit : Fit s := fun {y c} hc i hi => by
    obtain ⟨ha, rfl⟩ := Array.getElem?_eq_some_iff.mp hc
    have q := List.all_eq_true.mp ((Array.all_eq_true_iff_forall_mem.mp hF) _ (Array.getElem_mem ha)) i (List.mem_range.mpr hi)
    simpa [Array.getElem?_eq_getElem hi] using q
  obtain ⟨hsets, hown0⟩ := atoms_of _ (rest_1_c_eq ▸ (show rest_1_c.before _ s = true from hrest))
  have hr0 := Cond.before_iff.mp hown0
  obtain ⟨i0, ei0⟩ := is_v g3
  obtain rfl : w0 = (.int i0) := Option.some.inj ei0
  obtain ⟨i1, ei1⟩ := is_v g5
  obtain rfl : w1 = (.int i1) := Option.some.inj ei1
  obtain ⟨i2, ei2⟩ := is_v g6
  obtain rfl : w2 = (.int i2) := Option.some.inj ei2
  have nz := not_v (Cond.before_iff.mp (hsets _ (List.mem_of_getElem? (i := 2) rfl)))
  obtain ⟨cz, ecz⟩ := is_v (Cond.before_iff.mp (hsets _ (List.mem_of_getElem? (i := 1) rfl)))
  have SCS := Sta.start ecz (Or.inl (hsets _ (List.mem_of_getElem? (i := 0) rfl)))
  have hCS : ¬ (cz = (0 : Int32)) := gotF (Cond.eq_ints ecz (Term.int_eval (0))) nz
  obtain ⟨n, o, h1, h2, h3, _, L, rfl, ⟨rfl, N⟩, hq⟩ := rm0 l s _ hw tables_1 i0 i1 i2 cz s.heap s.heap.size (Nat.le_refl _) SCS hCS p e ha hc hk s m _ below hf ((Spec.applies_iff_loose hf).mp happ).1 ⟨rfl, State.Warmed39.refl s, rfl⟩ trivial
  refine ⟨n, _, h1, h2, h3, hpost _ _ _ _ _ _ ⟨Cond.after_iff.mpr rfl, Cond.after_iff.mpr (eq_i res_at (Term.int_eval (1)) rfl), trivial⟩ ⟨hq.1, hq.2.1, (hq.2.2.sift fun y hy => Or.inr (N y hy)).mono (by decide) (by decide)⟩⟩
theorem main_1_1 : Claimed_1_1 := comes_1 fun _ _ _ _ _ _ h hF => ⟨h.1, hF⟩
theorem main_1_2 : Claimed_1_2 := comes_1 fun _ _ _ _ _ _ h hF => ⟨h.2.1, hF⟩
end Jvm.Pilot.@@N@@
namespace Jvm.Pilot.@@N@@
open Jvm Jvm.ClassFile Sem Op Lib Jvm.Free Jvm.Stand Jvm.Pilot.@@N@@.Jvm.D
/-! MADE BY PROGRAM (witnessworld.py) out of the Statement's table words and the real class files: 20 classes; the members and pool entries that the words name. The judged class is class 1, her method 1. -/
namespace start1
open Jvm.ClassFile
def u (s : String) : CpInfo := .utf8 (stringToUtf16 s)
/-- a pool by its gaps: so many unusable entries, then the entry; so many at the end -/
def gap : Nat → List CpInfo → List CpInfo
  | 0, r => r
  | n + 1, r => .unusable :: gap n r
def poolList (es : List (Nat × CpInfo)) (last : Nat) : List CpInfo := es.foldr (fun e r => gap e.1 (e.2 :: r)) (gap last [])
def pool (es : List (Nat × CpInfo)) (last : Nat) : Array CpInfo := ⟨poolList es last⟩
def fileOf (pool : Array CpInfo) (this : Nat) (attrs : Array Attribute := #[]) (ms : Array MethodInfo := #[]) (fl : Nat := 33) (sup : Nat := 0) (ifs : Array Nat := #[]) (fds : Array FieldInfo := #[]) : ClassFile where
  minorVersion := 0
  majorVersion := 65
  constantPool := pool
  accessFlags := fl
  thisClass := this
  superClass := sup
  interfaces := ifs
  fields := fds
  methods := ms
  attributes := attrs
def plain (name : String) (sup : Option ClassId) : Class where
  name := name
  kind := .ordinary
  loader := none
  accessFlags := 33
  super := sup
  interfaces := #[]
  cf := none
  fields := #[]
  methods := #[]
  instanceTypes := #[]
  staticTypes := #[]
  resolved := #[]
  callSites := []
  init := .initialized
  statics := none
  mirror := none

def pool0 : Array CpInfo := pool [(5, u "<init>"), (0, u "()V"), (1, .class_ 10), (1, u "java/lang/Object")] 113

def k0c0 : Code := { maxStack := 0, maxLocals := 1, code := object_method_1_code, exceptionTable := #[], attributes := #[] }
def k0m0 : Method := { name := "<init>", desc := "()V", sig := { parameters := [], returnType := none }, accessFlags := 1, code := some k0c0 }
/-- java/lang/Object -/
def k0 : Class := { plain "java/lang/Object" none with
  accessFlags := 33
  interfaces := #[]
  cf := some (fileOf pool0 8 #[] #[{ accessFlags := 1, nameIndex := 5, descriptorIndex := 6, attributes := #[] }] 33 0 #[] #[])
  fields := #[]
  methods := #[k0m0]
  instanceTypes := #[]
  staticTypes := #[]
  resolved := Array.replicate 124 none
  statics := none }

def pool1 : Array CpInfo := pool [(2, .class_ 4), (1, u "java/lang/Object"), (0, u "<init>"), (0, u "()V"), (0, .integer 2147483647), (0, .integer 65536), (0, .methodref 10 11), (0, .class_ 12), (0, .nameAndType 13 14), (0, u "com/example/meyrin/meyrin/UrlAuthorityEndPinLaw"), (0, u "digitCount"), (0, u "(I)I"), (0, .methodref 10 16), (0, .nameAndType 17 18), (0, u "writeDigits"), (0, u "([CIII)V"), (0, .class_ 20), (0, u "com/example/meyrin/meyrin/Url"), (0, .class_ 22), (0, u "java/lang/String"), (0, .methodref 21 24), (0, .nameAndType 5 25), (0, u "([C)V"), (0, .methodref 19 27), (0, .nameAndType 5 28), (0, u "(Ljava/lang/String;IIIIIIII)V"), (0, .methodref 19 30), (0, .nameAndType 31 32), (0, u "authorityEnd"), (0, u "()I"), (2, u "law"), (0, u "(III)Z")] 5

def k1m0 : Method := { name := "<init>", desc := "()V", sig := { parameters := [], returnType := none }, accessFlags := 1, code := none }
def k1c1 : Code := { maxStack := 11, maxLocals := 16, code := code, exceptionTable := #[], attributes := #[] }
def k1m1 : Method := { name := "law", desc := "(III)Z", sig := { parameters := [.int, .int, .int], returnType := some .boolean }, accessFlags := 9, code := some k1c1 }
def k1c2 : Code := { maxStack := 2, maxLocals := 1, code := method_3_code, exceptionTable := #[], attributes := #[] }
def k1m2 : Method := { name := "digitCount", desc := "(I)I", sig := { parameters := [.int], returnType := some .int }, accessFlags := 10, code := some k1c2 }
def k1c3 : Code := { maxStack := 5, maxLocals := 4, code := method_4_code, exceptionTable := #[], attributes := #[] }
def k1m3 : Method := { name := "writeDigits", desc := "([CIII)V", sig := { parameters := [(.array .char), .int, .int, .int], returnType := none }, accessFlags := 10, code := some k1c3 }
/-- com/example/meyrin/meyrin/UrlAuthorityEndPinLaw -/
def k1 : Class := { plain "com/example/meyrin/meyrin/UrlAuthorityEndPinLaw" (some 0) with
  accessFlags := 49
  interfaces := #[]
  cf := some (fileOf pool1 10 #[] #[{ accessFlags := 1, nameIndex := 5, descriptorIndex := 6, attributes := #[] }, { accessFlags := 9, nameIndex := 35, descriptorIndex := 36, attributes := #[] }, { accessFlags := 10, nameIndex := 13, descriptorIndex := 14, attributes := #[] }, { accessFlags := 10, nameIndex := 17, descriptorIndex := 18, attributes := #[] }] 49 2 #[] #[])
  fields := #[]
  methods := #[k1m0, k1m1, k1m2, k1m3]
  instanceTypes := #[]
  staticTypes := #[]
  resolved := Array.replicate 42 none
  statics := none }

def pool2 : Array CpInfo := pool [(1, .methodref 2 3), (0, .class_ 4), (0, .nameAndType 5 6), (0, u "java/lang/Object"), (0, u "<init>"), (0, u "()V"), (0, .fieldref 8 9), (0, .class_ 10), (0, .nameAndType 11 12), (0, u "com/example/meyrin/meyrin/Url"), (0, u "href"), (0, u "Ljava/lang/String;"), (0, .fieldref 8 14), (0, .nameAndType 15 16), (0, u "schemeEnd"), (0, u "I"), (0, .fieldref 8 18), (0, .nameAndType 19 16), (0, u "usernameEnd"), (0, .fieldref 8 21), (0, .nameAndType 22 16), (0, u "hostStart"), (0, .fieldref 8 24), (0, .nameAndType 25 16), (0, u "hostEnd"), (0, .fieldref 8 27), (0, .nameAndType 28 16), (0, u "port"), (0, .fieldref 8 30), (0, .nameAndType 31 16), (0, u "pathStart"), (0, .fieldref 8 33), (0, .nameAndType 34 16), (0, u "pathEnd"), (0, .fieldref 8 36), (0, .nameAndType 37 16), (0, u "queryEnd"), (86, u "()I"), (40, u "authorityEnd"), (105, u "(Ljava/lang/String;IIIIIIII)V")] 144

def k2c0 : Code := { maxStack := 2, maxLocals := 10, code := prog_7_method_1_code, exceptionTable := #[], attributes := #[] }
def k2m0 : Method := { name := "<init>", desc := "(Ljava/lang/String;IIIIIIII)V", sig := { parameters := [(.object "java/lang/String"), .int, .int, .int, .int, .int, .int, .int, .int], returnType := none }, accessFlags := 0, code := some k2c0 }
def k2c1 : Code := { maxStack := 1, maxLocals := 1, code := prog_7_method_47_code, exceptionTable := #[], attributes := #[] }
def k2m1 : Method := { name := "authorityEnd", desc := "()I", sig := { parameters := [], returnType := some .int }, accessFlags := 0, code := some k2c1 }
/-- com/example/meyrin/meyrin/Url -/
def k2 : Class := { plain "com/example/meyrin/meyrin/Url" (some 0) with
  accessFlags := 49
  interfaces := #[]
  cf := some (fileOf pool2 8 #[] #[{ accessFlags := 0, nameIndex := 5, descriptorIndex := 271, attributes := #[] }, { accessFlags := 0, nameIndex := 165, descriptorIndex := 124, attributes := #[] }] 49 2 #[] #[{ accessFlags := 16, nameIndex := 11, descriptorIndex := 12, attributes := #[] }, { accessFlags := 16, nameIndex := 15, descriptorIndex := 16, attributes := #[] }, { accessFlags := 16, nameIndex := 19, descriptorIndex := 16, attributes := #[] }, { accessFlags := 16, nameIndex := 22, descriptorIndex := 16, attributes := #[] }, { accessFlags := 16, nameIndex := 25, descriptorIndex := 16, attributes := #[] }, { accessFlags := 16, nameIndex := 28, descriptorIndex := 16, attributes := #[] }, { accessFlags := 16, nameIndex := 31, descriptorIndex := 16, attributes := #[] }, { accessFlags := 16, nameIndex := 34, descriptorIndex := 16, attributes := #[] }, { accessFlags := 16, nameIndex := 37, descriptorIndex := 16, attributes := #[] }])
  fields := #[{ name := "href", type := (.object "java/lang/String"), accessFlags := 16, slot := 0, constantValue := 0 }, { name := "schemeEnd", type := .int, accessFlags := 16, slot := 1, constantValue := 0 }, { name := "usernameEnd", type := .int, accessFlags := 16, slot := 2, constantValue := 0 }, { name := "hostStart", type := .int, accessFlags := 16, slot := 3, constantValue := 0 }, { name := "hostEnd", type := .int, accessFlags := 16, slot := 4, constantValue := 0 }, { name := "port", type := .int, accessFlags := 16, slot := 5, constantValue := 0 }, { name := "pathStart", type := .int, accessFlags := 16, slot := 6, constantValue := 0 }, { name := "pathEnd", type := .int, accessFlags := 16, slot := 7, constantValue := 0 }, { name := "queryEnd", type := .int, accessFlags := 16, slot := 8, constantValue := 0 }]
  methods := #[k2m0, k2m1]
  instanceTypes := #[(.object "java/lang/String"), .int, .int, .int, .int, .int, .int, .int, .int]
  staticTypes := #[]
  resolved := Array.replicate 416 none
  statics := none }

def pool3 : Array CpInfo := pool [(1, .class_ 2), (0, u "java/io/Serializable"), (0, .class_ 4), (0, u "java/lang/Object")] 2

/-- java/io/Serializable -/
def k3 : Class := { plain "java/io/Serializable" (some 0) with
  accessFlags := 1537
  interfaces := #[]
  cf := some (fileOf pool3 1 #[] #[] 1537 3 #[] #[])
  fields := #[]
  methods := #[]
  instanceTypes := #[]
  staticTypes := #[]
  resolved := Array.replicate 7 none
  statics := none }

def pool4 : Array CpInfo := pool [(1, .class_ 2), (0, u "java/lang/Comparable"), (0, .class_ 4), (0, u "java/lang/Object")] 7

/-- java/lang/Comparable -/
def k4 : Class := { plain "java/lang/Comparable" (some 0) with
  accessFlags := 1537
  interfaces := #[]
  cf := some (fileOf pool4 1 #[] #[] 1537 3 #[] #[])
  fields := #[]
  methods := #[]
  instanceTypes := #[]
  staticTypes := #[]
  resolved := Array.replicate 12 none
  statics := none }

def pool5 : Array CpInfo := pool [(2, .class_ 4), (1, u "java/lang/CharSequence"), (42, .class_ 48), (0, u "java/lang/CharSequence$1CodePointIterator"), (10, .class_ 60), (0, u "java/lang/CharSequence$1CharIterator"), (5, .class_ 67), (0, u "java/lang/Object")] 63

/-- java/lang/CharSequence -/
def k5 : Class := { plain "java/lang/CharSequence" (some 0) with
  accessFlags := 1537
  interfaces := #[]
  cf := some (fileOf pool5 2 #[.nestMembers #[47, 59]] #[] 1537 66 #[] #[])
  fields := #[]
  methods := #[]
  instanceTypes := #[]
  staticTypes := #[]
  resolved := Array.replicate 131 none
  statics := none }

def pool6 : Array CpInfo := pool [(1, .class_ 2), (0, u "java/lang/constant/Constable"), (0, .class_ 4), (0, u "java/lang/Object")] 6

/-- java/lang/constant/Constable -/
def k6 : Class := { plain "java/lang/constant/Constable" (some 0) with
  accessFlags := 1537
  interfaces := #[]
  cf := some (fileOf pool6 1 #[] #[] 1537 3 #[] #[])
  fields := #[]
  methods := #[]
  instanceTypes := #[]
  staticTypes := #[]
  resolved := Array.replicate 11 none
  statics := none }

def pool7 : Array CpInfo := pool [(1, .class_ 2), (0, u "java/lang/constant/ConstantDesc"), (0, .class_ 4), (0, u "java/lang/Object")] 32

/-- java/lang/constant/ConstantDesc -/
def k7 : Class := { plain "java/lang/constant/ConstantDesc" (some 0) with
  accessFlags := 1537
  interfaces := #[]
  cf := some (fileOf pool7 1 #[] #[] 1537 3 #[] #[])
  fields := #[]
  methods := #[]
  instanceTypes := #[]
  staticTypes := #[]
  resolved := Array.replicate 37 none
  statics := none }

def pool8 : Array CpInfo := pool [(1, .methodref 2 3), (0, .class_ 4), (0, .nameAndType 5 6), (0, u "java/lang/Object"), (0, u "<init>"), (0, u "()V"), (2, .fieldref 10 11), (0, .class_ 12), (0, .nameAndType 13 14), (0, u "java/lang/String"), (0, u "value"), (0, u "[B"), (0, .fieldref 10 16), (0, .nameAndType 17 18), (0, u "coder"), (0, u "B"), (2, u "hash"), (0, u "I"), (2, u "hashIsZero"), (0, u "Z"), (0, .methodref 10 28), (0, .nameAndType 5 29), (0, u "([CIILjava/lang/Void;)V"), (8, .fieldref 10 39), (0, .nameAndType 40 26), (0, u "COMPACT_STRINGS"), (1, .class_ 44), (1, u "java/lang/StringUTF16"), (0, u "compress"), (1, .methodref 42 48), (0, .nameAndType 49 50), (0, u "coderFromArrayLen"), (0, u "([BI)B"), (126, .methodref 42 178), (0, .nameAndType 45 179), (0, u "([CII)[B"), (395, .class_ 576), (0, u "java/lang/CharSequence"), (22, u "CASE_INSENSITIVE_ORDER"), (0, u "Ljava/util/Comparator;"), (409, u "([C)V"), (90, u "serialPersistentFields"), (0, u "[Ljava/io/ObjectStreamField;"), (0, .class_ 1104), (0, u "java/lang/String$CaseInsensitiveComparator"), (1, .class_ 1107), (0, u "java/io/Serializable"), (0, .class_ 1109), (0, u "java/lang/Comparable"), (0, .class_ 1111), (0, u "java/lang/constant/Constable"), (0, .class_ 1113), (0, u "java/lang/constant/ConstantDesc"), (2, u "serialVersionUID"), (0, u "J"), (3, u "REPL"), (0, u "C"), (2, u "LATIN1"), (1, u "UTF16")] 323

def k8m0 : Method := { name := "<init>", desc := "()V", sig := { parameters := [], returnType := none }, accessFlags := 1, code := none }
def k8c1 : Code := { maxStack := 5, maxLocals := 2, code := jdk_42_method_3_code, exceptionTable := #[], attributes := #[] }
def k8m1 : Method := { name := "<init>", desc := "([C)V", sig := { parameters := [(.array .char)], returnType := none }, accessFlags := 1, code := some k8c1 }
def k8c2 : Code := { maxStack := 4, maxLocals := 6, code := jdk_42_method_149_code, exceptionTable := #[], attributes := #[] }
def k8m2 : Method := { name := "<init>", desc := "([CIILjava/lang/Void;)V", sig := { parameters := [(.array .char), .int, .int, (.object "java/lang/Void")], returnType := none }, accessFlags := 2, code := some k8c2 }
/-- java/lang/String -/
def k8 : Class := { plain "java/lang/String" (some 0) with
  accessFlags := 49
  interfaces := #[3, 4, 5, 6, 7]
  cf := some (fileOf pool8 10 #[.nestMembers #[1103]] #[{ accessFlags := 1, nameIndex := 5, descriptorIndex := 6, attributes := #[] }, { accessFlags := 1, nameIndex := 5, descriptorIndex := 1010, attributes := #[] }, { accessFlags := 2, nameIndex := 5, descriptorIndex := 29, attributes := #[] }] 49 2 #[1106, 1108, 575, 1110, 1112] #[{ accessFlags := 18, nameIndex := 13, descriptorIndex := 14, attributes := #[] }, { accessFlags := 18, nameIndex := 17, descriptorIndex := 18, attributes := #[] }, { accessFlags := 2, nameIndex := 21, descriptorIndex := 22, attributes := #[] }, { accessFlags := 2, nameIndex := 25, descriptorIndex := 26, attributes := #[] }, { accessFlags := 26, nameIndex := 1116, descriptorIndex := 1117, attributes := #[] }, { accessFlags := 24, nameIndex := 40, descriptorIndex := 26, attributes := #[] }, { accessFlags := 26, nameIndex := 1101, descriptorIndex := 1102, attributes := #[] }, { accessFlags := 26, nameIndex := 1121, descriptorIndex := 1122, attributes := #[] }, { accessFlags := 25, nameIndex := 599, descriptorIndex := 600, attributes := #[] }, { accessFlags := 24, nameIndex := 1125, descriptorIndex := 18, attributes := #[] }, { accessFlags := 24, nameIndex := 1127, descriptorIndex := 18, attributes := #[] }])
  fields := #[{ name := "value", type := (.array .byte), accessFlags := 18, slot := 0, constantValue := 0 }, { name := "coder", type := .byte, accessFlags := 18, slot := 1, constantValue := 0 }, { name := "hash", type := .int, accessFlags := 2, slot := 2, constantValue := 0 }, { name := "hashIsZero", type := .boolean, accessFlags := 2, slot := 3, constantValue := 0 }, { name := "serialVersionUID", type := .long, accessFlags := 26, slot := 0, constantValue := 0 }, { name := "COMPACT_STRINGS", type := .boolean, accessFlags := 24, slot := 1, constantValue := 0 }, { name := "serialPersistentFields", type := (.array (.object "java/io/ObjectStreamField")), accessFlags := 26, slot := 2, constantValue := 0 }, { name := "REPL", type := .char, accessFlags := 26, slot := 3, constantValue := 0 }, { name := "CASE_INSENSITIVE_ORDER", type := (.object "java/util/Comparator"), accessFlags := 25, slot := 4, constantValue := 0 }, { name := "LATIN1", type := .byte, accessFlags := 24, slot := 5, constantValue := 0 }, { name := "UTF16", type := .byte, accessFlags := 24, slot := 6, constantValue := 0 }]
  methods := #[k8m0, k8m1, k8m2]
  instanceTypes := #[(.array .byte), .byte, .int, .boolean]
  staticTypes := #[.long, .boolean, (.array (.object "java/io/ObjectStreamField")), .char, (.object "java/util/Comparator"), .byte, .byte]
  resolved := Array.replicate 1451 none
  statics := some 0 }

def pool9 : Array CpInfo := pool [(6, .class_ 8), (1, u "java/lang/Object"), (0, u "<init>"), (0, u "()V"), (1, .class_ 14), (1, u "java/lang/StringUTF16"), (31, u "$assertionsDisabled"), (0, u "Z"), (13, u "HI_BYTE_SHIFT"), (0, u "I"), (2, u "LO_BYTE_SHIFT"), (49, .methodref 12 116), (0, .nameAndType 117 118), (0, u "compress"), (0, u "([CI[BII)I"), (3, u "([CII)[B"), (138, u "coderFromArrayLen"), (0, u "([BI)B"), (106, .class_ 371), (1, u "java/lang/StringUTF16$LinesSpliterator"), (58, u "MAX_LENGTH"), (196, .class_ 628), (0, u "java/lang/StringUTF16$CodePointsSpliterator"), (0, .class_ 630), (0, u "java/lang/StringUTF16$CharsSpliterator")] 4

def k9m0 : Method := { name := "<init>", desc := "()V", sig := { parameters := [], returnType := none }, accessFlags := 0, code := none }
def k9c1 : Code := { maxStack := 2, maxLocals := 2, code := jdk_52_method_15_code, exceptionTable := #[], attributes := #[] }
def k9m1 : Method := { name := "coderFromArrayLen", desc := "([BI)B", sig := { parameters := [(.array .byte), .int], returnType := some .byte }, accessFlags := 8, code := some k9c1 }
def k9c2 : Code := { maxStack := 5, maxLocals := 6, code := jdk_52_method_16_code, exceptionTable := #[], attributes := #[] }
def k9m2 : Method := { name := "compress", desc := "([CII)[B", sig := { parameters := [(.array .char), .int, .int], returnType := some (.array .byte) }, accessFlags := 9, code := some k9c2 }
def k9c3 : Code := { maxStack := 3, maxLocals := 7, code := jdk_52_method_21_code, exceptionTable := #[], attributes := #[] }
def k9m3 : Method := { name := "compress", desc := "([CI[BII)I", sig := { parameters := [(.array .char), .int, (.array .byte), .int, .int], returnType := some .int }, accessFlags := 9, code := some k9c3 }
/-- java/lang/StringUTF16 -/
def k9 : Class := { plain "java/lang/StringUTF16" (some 0) with
  accessFlags := 48
  interfaces := #[]
  cf := some (fileOf pool9 12 #[.nestMembers #[627, 629, 369]] #[{ accessFlags := 0, nameIndex := 9, descriptorIndex := 10, attributes := #[] }, { accessFlags := 8, nameIndex := 261, descriptorIndex := 262, attributes := #[] }, { accessFlags := 9, nameIndex := 117, descriptorIndex := 122, attributes := #[] }, { accessFlags := 9, nameIndex := 117, descriptorIndex := 118, attributes := #[] }] 48 6 #[] #[{ accessFlags := 26, nameIndex := 61, descriptorIndex := 62, attributes := #[] }, { accessFlags := 26, nameIndex := 65, descriptorIndex := 62, attributes := #[] }, { accessFlags := 24, nameIndex := 430, descriptorIndex := 62, attributes := #[] }, { accessFlags := 4120, nameIndex := 46, descriptorIndex := 47, attributes := #[] }])
  fields := #[{ name := "HI_BYTE_SHIFT", type := .int, accessFlags := 26, slot := 0, constantValue := 0 }, { name := "LO_BYTE_SHIFT", type := .int, accessFlags := 26, slot := 1, constantValue := 0 }, { name := "MAX_LENGTH", type := .int, accessFlags := 24, slot := 2, constantValue := 0 }, { name := "$assertionsDisabled", type := .boolean, accessFlags := 4120, slot := 3, constantValue := 0 }]
  methods := #[k9m0, k9m1, k9m2, k9m3]
  instanceTypes := #[]
  staticTypes := #[.int, .int, .int, .boolean]
  resolved := Array.replicate 635 none
  statics := none }

def pool10 : Array CpInfo := pool [(4, .class_ 6), (1, u "java/lang/Object"), (0, u "<init>"), (0, u "()V"), (5, .class_ 16), (1, u "java/lang/StringLatin1"), (104, u "$assertionsDisabled"), (0, u "Z"), (98, .class_ 223), (1, u "java/lang/StringLatin1$LinesSpliterator"), (166, .class_ 391), (0, u "java/lang/StringLatin1$CharsSpliterator")] 3

def k10m0 : Method := { name := "<init>", desc := "()V", sig := { parameters := [], returnType := none }, accessFlags := 0, code := none }
/-- java/lang/StringLatin1 -/
def k10 : Class := { plain "java/lang/StringLatin1" (some 0) with
  accessFlags := 48
  interfaces := #[]
  cf := some (fileOf pool10 14 #[.nestMembers #[390, 221]] #[{ accessFlags := 0, nameIndex := 7, descriptorIndex := 8, attributes := #[] }] 48 4 #[] #[{ accessFlags := 4120, nameIndex := 121, descriptorIndex := 122, attributes := #[] }])
  fields := #[{ name := "$assertionsDisabled", type := .boolean, accessFlags := 4120, slot := 0, constantValue := 0 }]
  methods := #[k10m0]
  instanceTypes := #[]
  staticTypes := #[.boolean]
  resolved := Array.replicate 395 none
  statics := none }

def pool11 : Array CpInfo := pool [(2, .class_ 4), (1, u "java/lang/Object"), (0, u "<init>"), (0, u "()V"), (17, .class_ 26), (1, u "jdk/internal/util/Preconditions"), (28, .class_ 56), (0, u "jdk/internal/util/Preconditions$4"), (57, .class_ 115), (0, u "jdk/internal/util/Preconditions$1"), (7, u "SIOOBE_FORMATTER"), (0, u "Ljava/util/function/BiFunction;"), (0, .class_ 126), (0, u "jdk/internal/util/Preconditions$2"), (3, u "AIOOBE_FORMATTER"), (0, .class_ 132), (0, u "jdk/internal/util/Preconditions$3"), (3, u "IOOBE_FORMATTER")] 57

def k11m0 : Method := { name := "<init>", desc := "()V", sig := { parameters := [], returnType := none }, accessFlags := 1, code := none }
/-- jdk/internal/util/Preconditions -/
def k11 : Class := { plain "jdk/internal/util/Preconditions" (some 0) with
  accessFlags := 33
  interfaces := #[]
  cf := some (fileOf pool11 24 #[.nestMembers #[55, 131, 125, 114]] #[{ accessFlags := 1, nameIndex := 5, descriptorIndex := 6, attributes := #[] }] 33 2 #[] #[{ accessFlags := 25, nameIndex := 123, descriptorIndex := 124, attributes := #[] }, { accessFlags := 25, nameIndex := 130, descriptorIndex := 124, attributes := #[] }, { accessFlags := 25, nameIndex := 136, descriptorIndex := 124, attributes := #[] }])
  fields := #[{ name := "SIOOBE_FORMATTER", type := (.object "java/util/function/BiFunction"), accessFlags := 25, slot := 0, constantValue := 0 }, { name := "AIOOBE_FORMATTER", type := (.object "java/util/function/BiFunction"), accessFlags := 25, slot := 1, constantValue := 0 }, { name := "IOOBE_FORMATTER", type := (.object "java/util/function/BiFunction"), accessFlags := 25, slot := 2, constantValue := 0 }]
  methods := #[k11m0]
  instanceTypes := #[]
  staticTypes := #[(.object "java/util/function/BiFunction"), (.object "java/util/function/BiFunction"), (.object "java/util/function/BiFunction")]
  resolved := Array.replicate 194 none
  statics := some 1 }

def pool12 : Array CpInfo := pool [(9, u "<init>"), (6, .class_ 18), (1, u "java/lang/Object"), (0, u "()V"), (1, .class_ 23), (1, u "jdk/internal/util/ArraysSupport"), (0, u "LOG2_ARRAY_LONG_INDEX_SCALE"), (0, u "I"), (2, u "U"), (0, u "Ljdk/internal/misc/Unsafe;"), (8, u "BIG_ENDIAN"), (0, u "Z"), (8, u "LOG2_BYTE_BIT_SIZE"), (4, u "LOG2_ARRAY_INT_INDEX_SCALE"), (54, u "JLA"), (0, u "Ljdk/internal/access/JavaLangAccess;"), (11, u "LOG2_ARRAY_BOOLEAN_INDEX_SCALE"), (9, u "LOG2_ARRAY_BYTE_INDEX_SCALE"), (5, u "LOG2_ARRAY_CHAR_INDEX_SCALE"), (5, u "LOG2_ARRAY_SHORT_INDEX_SCALE"), (18, u "LOG2_ARRAY_FLOAT_INDEX_SCALE"), (24, u "LOG2_ARRAY_DOUBLE_INDEX_SCALE"), (89, u "T_BOOLEAN"), (2, u "T_CHAR"), (1, u "T_FLOAT"), (1, u "T_DOUBLE"), (1, u "T_BYTE"), (1, u "T_SHORT"), (1, u "T_INT"), (1, u "T_LONG"), (1, u "SOFT_MAX_ARRAY_LENGTH")] 83

def k12m0 : Method := { name := "<init>", desc := "()V", sig := { parameters := [], returnType := none }, accessFlags := 2, code := none }
/-- jdk/internal/util/ArraysSupport -/
def k12 : Class := { plain "jdk/internal/util/ArraysSupport" (some 0) with
  accessFlags := 33
  interfaces := #[]
  cf := some (fileOf pool12 21 #[] #[{ accessFlags := 2, nameIndex := 9, descriptorIndex := 19, attributes := #[] }] 33 16 #[] #[{ accessFlags := 24, nameIndex := 28, descriptorIndex := 29, attributes := #[] }, { accessFlags := 26, nameIndex := 38, descriptorIndex := 39, attributes := #[] }, { accessFlags := 25, nameIndex := 121, descriptorIndex := 25, attributes := #[] }, { accessFlags := 25, nameIndex := 131, descriptorIndex := 25, attributes := #[] }, { accessFlags := 25, nameIndex := 137, descriptorIndex := 25, attributes := #[] }, { accessFlags := 25, nameIndex := 143, descriptorIndex := 25, attributes := #[] }, { accessFlags := 25, nameIndex := 53, descriptorIndex := 25, attributes := #[] }, { accessFlags := 25, nameIndex := 24, descriptorIndex := 25, attributes := #[] }, { accessFlags := 25, nameIndex := 162, descriptorIndex := 25, attributes := #[] }, { accessFlags := 25, nameIndex := 187, descriptorIndex := 25, attributes := #[] }, { accessFlags := 26, nameIndex := 48, descriptorIndex := 25, attributes := #[] }, { accessFlags := 25, nameIndex := 277, descriptorIndex := 25, attributes := #[] }, { accessFlags := 25, nameIndex := 280, descriptorIndex := 25, attributes := #[] }, { accessFlags := 25, nameIndex := 282, descriptorIndex := 25, attributes := #[] }, { accessFlags := 25, nameIndex := 284, descriptorIndex := 25, attributes := #[] }, { accessFlags := 25, nameIndex := 286, descriptorIndex := 25, attributes := #[] }, { accessFlags := 25, nameIndex := 288, descriptorIndex := 25, attributes := #[] }, { accessFlags := 25, nameIndex := 290, descriptorIndex := 25, attributes := #[] }, { accessFlags := 25, nameIndex := 292, descriptorIndex := 25, attributes := #[] }, { accessFlags := 26, nameIndex := 108, descriptorIndex := 109, attributes := #[] }, { accessFlags := 25, nameIndex := 294, descriptorIndex := 25, attributes := #[] }])
  fields := #[{ name := "U", type := (.object "jdk/internal/misc/Unsafe"), accessFlags := 24, slot := 0, constantValue := 0 }, { name := "BIG_ENDIAN", type := .boolean, accessFlags := 26, slot := 1, constantValue := 0 }, { name := "LOG2_ARRAY_BOOLEAN_INDEX_SCALE", type := .int, accessFlags := 25, slot := 2, constantValue := 0 }, { name := "LOG2_ARRAY_BYTE_INDEX_SCALE", type := .int, accessFlags := 25, slot := 3, constantValue := 0 }, { name := "LOG2_ARRAY_CHAR_INDEX_SCALE", type := .int, accessFlags := 25, slot := 4, constantValue := 0 }, { name := "LOG2_ARRAY_SHORT_INDEX_SCALE", type := .int, accessFlags := 25, slot := 5, constantValue := 0 }, { name := "LOG2_ARRAY_INT_INDEX_SCALE", type := .int, accessFlags := 25, slot := 6, constantValue := 0 }, { name := "LOG2_ARRAY_LONG_INDEX_SCALE", type := .int, accessFlags := 25, slot := 7, constantValue := 0 }, { name := "LOG2_ARRAY_FLOAT_INDEX_SCALE", type := .int, accessFlags := 25, slot := 8, constantValue := 0 }, { name := "LOG2_ARRAY_DOUBLE_INDEX_SCALE", type := .int, accessFlags := 25, slot := 9, constantValue := 0 }, { name := "LOG2_BYTE_BIT_SIZE", type := .int, accessFlags := 26, slot := 10, constantValue := 0 }, { name := "T_BOOLEAN", type := .int, accessFlags := 25, slot := 11, constantValue := 0 }, { name := "T_CHAR", type := .int, accessFlags := 25, slot := 12, constantValue := 0 }, { name := "T_FLOAT", type := .int, accessFlags := 25, slot := 13, constantValue := 0 }, { name := "T_DOUBLE", type := .int, accessFlags := 25, slot := 14, constantValue := 0 }, { name := "T_BYTE", type := .int, accessFlags := 25, slot := 15, constantValue := 0 }, { name := "T_SHORT", type := .int, accessFlags := 25, slot := 16, constantValue := 0 }, { name := "T_INT", type := .int, accessFlags := 25, slot := 17, constantValue := 0 }, { name := "T_LONG", type := .int, accessFlags := 25, slot := 18, constantValue := 0 }, { name := "JLA", type := (.object "jdk/internal/access/JavaLangAccess"), accessFlags := 26, slot := 19, constantValue := 0 }, { name := "SOFT_MAX_ARRAY_LENGTH", type := .int, accessFlags := 25, slot := 20, constantValue := 0 }]
  methods := #[k12m0]
  instanceTypes := #[]
  staticTypes := #[(.object "jdk/internal/misc/Unsafe"), .boolean, .int, .int, .int, .int, .int, .int, .int, .int, .int, .int, .int, .int, .int, .int, .int, .int, .int, (.object "jdk/internal/access/JavaLangAccess"), .int]
  resolved := Array.replicate 378 none
  statics := none }

def pool13 : Array CpInfo := pool [(1, u "java/lang/Cloneable"), (0, .class_ 1), (0, u "java/lang/Object"), (0, .class_ 3)] 3

/-- java/lang/Cloneable -/
def k13 : Class := { plain "java/lang/Cloneable" (some 0) with
  accessFlags := 1537
  interfaces := #[]
  cf := some (fileOf pool13 2 #[] #[] 1537 4 #[] #[])
  fields := #[]
  methods := #[]
  instanceTypes := #[]
  staticTypes := #[]
  resolved := Array.replicate 8 none
  statics := none }

/-- the primitive byte -/
def k14 : Class := { plain "byte" none with kind := .primitive 'B', accessFlags := 0x411 }
/-- [B -/
def k15 : Class := { plain "[B" (some 0) with kind := .array 14 .byte, interfaces := #[13, 3], accessFlags := 1041 }

/-- the primitive char -/
def k16 : Class := { plain "char" none with kind := .primitive 'C', accessFlags := 0x411 }
/-- [C -/
def k17 : Class := { plain "[C" (some 0) with kind := .array 16 .char, interfaces := #[13, 3], accessFlags := 1041 }

/-- the primitive int -/
def k18 : Class := { plain "int" none with kind := .primitive 'I', accessFlags := 0x411 }
/-- [I -/
def k19 : Class := { plain "[I" (some 0) with kind := .array 18 .int, interfaces := #[13, 3], accessFlags := 1041 }

def heap : Heap := #[{ cls := 8, slots := #[.long 0, .int 1, .null, .int 0, .null, .int 0, .int 0], vm := .statics 8 },
  { cls := 11, slots := #[.null, .null, .null], vm := .statics 11 }]
def classes : Array Class := #[k0, k1, k2, k3, k4, k5, k6, k7, k8, k9, k10, k11, k12, k13, k14, k15, k16, k17, k18, k19]
def interned : List (Array UInt16 × Addr) := []
def slotsUsed : Nat := 10
def theMethod : MethodId := ⟨1, 1⟩
def args0 : Array Value := #[.int 5, .int 6, .int 7]
def aboutOver (below : List Frame) : State where
  vm := { classes := classes, interned := interned.toArray }
  heap := heap
  slotsUsed := slotsUsed
  threads := #[{ frames := .invoking theMethod args0 :: below }]
def below0 : List Frame := [.native { method := ⟨0, 0⟩, args := #[] }]
def about1 : State := aboutOver below0
def p0 : Program := .bare "" "" ""
def e0 : Env := launch0.env 0 0 0
theorem w_frames : about1.frames = Frame.invoking theMethod args0 :: below0 := rfl
set_option maxRecDepth 65536 in
theorem w_args : argsFit about1.vm theMethod args0 = true := by decide +kernel
set_option maxRecDepth 65536 in
theorem w_heap : heapFits about1 = true := by decide +kernel
set_option maxRecDepth 65536 in
theorem w_runnable : about1.curStatus? = some .runnable := by decide +kernel
set_option maxRecDepth 65536 in
theorem w_alone : about1.alone = true := by decide +kernel
set_option maxRecDepth 65536 in
theorem w_named : about1.methodNamed? x = some theMethod := by decide +kernel
set_option maxRecDepth 65536 in
theorem w_hears : about1.hears theMethod below0 = true := by decide +kernel
set_option maxRecDepth 65536 in
theorem w_ripe : about1.ripe theMethod args0 below0 = true := by decide +kernel
theorem w_running : about1.status = .running := rfl
set_option maxRecDepth 65536 in
theorem w_room : about1.hasRoom e0.platform room_1 = true :=
  launch0.hasRoom_least _ room_1 (by decide +kernel) (by decide +kernel) (by decide +kernel) (by decide +kernel) (by decide +kernel) (by decide +kernel)
theorem allAtoms_all (ts : List Jvm.Cond) (a : Array Jvm.Value) (st : Jvm.State) : (allAtoms ts).before a st = ts.all (fun c => c.before a st) := by
  induction ts with
  | nil => rfl
  | cons c t ih =>
    show (Jvm.Cond.and c (allAtoms t)).before a st = _
    rw [Jvm.Cond.before_and, ih, List.all_cons]
def words1 : List Jvm.Cond := Jvm.Cond.code x code maxLocals ret :: tables_1
/-- a 'code' word, met by the world's own term for the bytes: nothing is compared byte by byte -/
theorem code_word {y : MethodName} {bytes : ByteArray} {mx : Nat} {rt : Option FieldType} {a : Array Value} {s : State} {m : MethodId} {meth : Method} {c : Code} (h1 : s.methodNamed? y = some m) (h2 : s.vm.method? m = some meth) (h3 : meth.code = some c) (h4 : c.code = bytes)
    (h5 : (c.maxLocals == mx && c.exceptionTable.isEmpty && decide (c.maxStack ≤ mostOperands) && decide (meth.sig.returnType = rt) && !meth.locks && decide (parseMethodDescriptor y.desc = some meth.sig)) = true) : (Jvm.Cond.code y bytes mx rt).before a s = true := by
  simp only [Bool.and_eq_true, beq_iff_eq, Bool.not_eq_true', decide_eq_true_eq] at h5
  obtain ⟨⟨⟨⟨⟨g1, g2⟩, g3⟩, g4⟩, g5⟩, g6⟩ := h5
  simp [Cond.before, Cond.holds, Cond.value, h1, h2, h3, h4, g1, g2, g3, g4, g5, g6]
def isCode : Jvm.Cond → Bool
  | .code _ _ _ _ => true
  | _ => false
theorem all_split {L : List Jvm.Cond} {P : Jvm.Cond → Bool} (h1 : L.all (fun c => isCode c || P c) = true) (h2 : ∀ c ∈ L.filter isCode, P c = true) : L.all P = true := by
  refine List.all_eq_true.mpr fun c hc => ?_
  have h := List.all_eq_true.mp h1 c hc
  rcases Bool.eq_false_or_eq_true (isCode c) with hi | hi
  · exact h2 c (List.mem_filter.mpr ⟨hc, hi⟩)
  · simpa [hi] using h
set_option maxRecDepth 65536 in
theorem w_c0 : (Jvm.Cond.code x code maxLocals ret).before args0 about1 = true := code_word (m := ⟨1, 1⟩) (meth := k1m1) (c := k1c1) (by decide +kernel) rfl rfl rfl (by decide +kernel)
set_option maxRecDepth 65536 in
theorem w_c1 : (Jvm.Cond.code ({ cls := "java/lang/String", name := "<init>", desc := "([C)V" } : Jvm.MethodName) jdk_42_method_3_code (2 : Nat) (Option.none : Option Jvm.ClassFile.FieldType)).before args0 about1 = true := code_word (m := ⟨8, 1⟩) (meth := k8m1) (c := k8c1) (by decide +kernel) rfl rfl rfl (by decide +kernel)
set_option maxRecDepth 65536 in
theorem w_c2 : (Jvm.Cond.code ({ cls := "java/lang/String", name := "<init>", desc := "([CIILjava/lang/Void;)V" } : Jvm.MethodName) jdk_42_method_149_code (6 : Nat) (Option.none : Option Jvm.ClassFile.FieldType)).before args0 about1 = true := code_word (m := ⟨8, 2⟩) (meth := k8m2) (c := k8c2) (by decide +kernel) rfl rfl rfl (by decide +kernel)
set_option maxRecDepth 65536 in
theorem w_c3 : (Jvm.Cond.code ({ cls := "java/lang/Object", name := "<init>", desc := "()V" } : Jvm.MethodName) object_method_1_code (1 : Nat) (Option.none : Option Jvm.ClassFile.FieldType)).before args0 about1 = true := code_word (m := ⟨0, 0⟩) (meth := k0m0) (c := k0c0) (by decide +kernel) rfl rfl rfl (by decide +kernel)
set_option maxRecDepth 65536 in
theorem w_c4 : (Jvm.Cond.code ({ cls := "java/lang/StringUTF16", name := "compress", desc := "([CII)[B" } : Jvm.MethodName) jdk_52_method_16_code (6 : Nat) (Option.some (Jvm.ClassFile.FieldType.array Jvm.ClassFile.FieldType.byte))).before args0 about1 = true := code_word (m := ⟨9, 2⟩) (meth := k9m2) (c := k9c2) (by decide +kernel) rfl rfl rfl (by decide +kernel)
set_option maxRecDepth 65536 in
theorem w_c5 : (Jvm.Cond.code ({ cls := "java/lang/StringUTF16", name := "compress", desc := "([CI[BII)I" } : Jvm.MethodName) jdk_52_method_21_code (7 : Nat) (Option.some Jvm.ClassFile.FieldType.int)).before args0 about1 = true := code_word (m := ⟨9, 3⟩) (meth := k9m3) (c := k9c3) (by decide +kernel) rfl rfl rfl (by decide +kernel)
set_option maxRecDepth 65536 in
theorem w_c6 : (Jvm.Cond.code ({ cls := "java/lang/StringUTF16", name := "coderFromArrayLen", desc := "([BI)B" } : Jvm.MethodName) jdk_52_method_15_code (2 : Nat) (Option.some Jvm.ClassFile.FieldType.byte)).before args0 about1 = true := code_word (m := ⟨9, 1⟩) (meth := k9m1) (c := k9c1) (by decide +kernel) rfl rfl rfl (by decide +kernel)
set_option maxRecDepth 65536 in
theorem w_c7 : (Jvm.Cond.code ({ cls := "com/example/meyrin/meyrin/Url", name := "<init>", desc := "(Ljava/lang/String;IIIIIIII)V" } : Jvm.MethodName) prog_7_method_1_code (10 : Nat) (Option.none : Option Jvm.ClassFile.FieldType)).before args0 about1 = true := code_word (m := ⟨2, 0⟩) (meth := k2m0) (c := k2c0) (by decide +kernel) rfl rfl rfl (by decide +kernel)
set_option maxRecDepth 65536 in
theorem w_c8 : (Jvm.Cond.code ({ cls := "com/example/meyrin/meyrin/Url", name := "authorityEnd", desc := "()I" } : Jvm.MethodName) prog_7_method_47_code (1 : Nat) (Option.some Jvm.ClassFile.FieldType.int)).before args0 about1 = true := code_word (m := ⟨2, 1⟩) (meth := k2m1) (c := k2c1) (by decide +kernel) rfl rfl rfl (by decide +kernel)
set_option maxRecDepth 65536 in
theorem w_c9 : (Jvm.Cond.code ({ cls := "com/example/meyrin/meyrin/UrlAuthorityEndPinLaw", name := "digitCount", desc := "(I)I" } : Jvm.MethodName) method_3_code (1 : Nat) (Option.some Jvm.ClassFile.FieldType.int)).before args0 about1 = true := code_word (m := ⟨1, 2⟩) (meth := k1m2) (c := k1c2) (by decide +kernel) rfl rfl rfl (by decide +kernel)
set_option maxRecDepth 65536 in
theorem w_c10 : (Jvm.Cond.code ({ cls := "com/example/meyrin/meyrin/UrlAuthorityEndPinLaw", name := "writeDigits", desc := "([CIII)V" } : Jvm.MethodName) method_4_code (4 : Nat) (Option.none : Option Jvm.ClassFile.FieldType)).before args0 about1 = true := code_word (m := ⟨1, 3⟩) (meth := k1m3) (c := k1c3) (by decide +kernel) rfl rfl rfl (by decide +kernel)
def codes1 : List Jvm.Cond := [Jvm.Cond.code x code maxLocals ret, Jvm.Cond.code ({ cls := "java/lang/String", name := "<init>", desc := "([C)V" } : Jvm.MethodName) jdk_42_method_3_code (2 : Nat) (Option.none : Option Jvm.ClassFile.FieldType), Jvm.Cond.code ({ cls := "java/lang/String", name := "<init>", desc := "([CIILjava/lang/Void;)V" } : Jvm.MethodName) jdk_42_method_149_code (6 : Nat) (Option.none : Option Jvm.ClassFile.FieldType), Jvm.Cond.code ({ cls := "java/lang/Object", name := "<init>", desc := "()V" } : Jvm.MethodName) object_method_1_code (1 : Nat) (Option.none : Option Jvm.ClassFile.FieldType), Jvm.Cond.code ({ cls := "java/lang/StringUTF16", name := "compress", desc := "([CII)[B" } : Jvm.MethodName) jdk_52_method_16_code (6 : Nat) (Option.some (Jvm.ClassFile.FieldType.array Jvm.ClassFile.FieldType.byte)), Jvm.Cond.code ({ cls := "java/lang/StringUTF16", name := "compress", desc := "([CI[BII)I" } : Jvm.MethodName) jdk_52_method_21_code (7 : Nat) (Option.some Jvm.ClassFile.FieldType.int), Jvm.Cond.code ({ cls := "java/lang/StringUTF16", name := "coderFromArrayLen", desc := "([BI)B" } : Jvm.MethodName) jdk_52_method_15_code (2 : Nat) (Option.some Jvm.ClassFile.FieldType.byte), Jvm.Cond.code ({ cls := "com/example/meyrin/meyrin/Url", name := "<init>", desc := "(Ljava/lang/String;IIIIIIII)V" } : Jvm.MethodName) prog_7_method_1_code (10 : Nat) (Option.none : Option Jvm.ClassFile.FieldType), Jvm.Cond.code ({ cls := "com/example/meyrin/meyrin/Url", name := "authorityEnd", desc := "()I" } : Jvm.MethodName) prog_7_method_47_code (1 : Nat) (Option.some Jvm.ClassFile.FieldType.int), Jvm.Cond.code ({ cls := "com/example/meyrin/meyrin/UrlAuthorityEndPinLaw", name := "digitCount", desc := "(I)I" } : Jvm.MethodName) method_3_code (1 : Nat) (Option.some Jvm.ClassFile.FieldType.int), Jvm.Cond.code ({ cls := "com/example/meyrin/meyrin/UrlAuthorityEndPinLaw", name := "writeDigits", desc := "([CIII)V" } : Jvm.MethodName) method_4_code (4 : Nat) (Option.none : Option Jvm.ClassFile.FieldType)]
set_option maxRecDepth 65536 in
theorem codes_eq : words1.filter isCode = codes1 := rfl
theorem w_codes : ∀ c ∈ words1.filter isCode, c.before args0 about1 = true := by
  rw [codes_eq]
  intro c hc
  simp only [codes1, List.mem_cons, List.not_mem_nil, or_false] at hc
  rcases hc with rfl | rfl | rfl | rfl | rfl | rfl | rfl | rfl | rfl | rfl | rfl
  · exact w_c0
  · exact w_c1
  · exact w_c2
  · exact w_c3
  · exact w_c4
  · exact w_c5
  · exact w_c6
  · exact w_c7
  · exact w_c8
  · exact w_c9
  · exact w_c10
set_option maxRecDepth 65536 in
theorem w_t1 : (words1.take 24).all (fun c => isCode c || c.before args0 about1) = true := by decide +kernel
set_option maxRecDepth 65536 in
theorem w_t2 : ((words1.drop 24).take 24).all (fun c => isCode c || c.before args0 about1) = true := by decide +kernel
set_option maxRecDepth 65536 in
theorem w_t3 : ((words1.drop 24).drop 24).all (fun c => isCode c || c.before args0 about1) = true := by decide +kernel
theorem w_tables : (allAtoms (Jvm.Cond.code x code maxLocals ret :: tables_1)).before args0 about1 = true := by
  rw [allAtoms_all]
  show words1.all (fun c => c.before args0 about1) = true
  refine all_split ?_ w_codes
  rw [← List.take_append_drop 24 words1, List.all_append, w_t1, ← List.take_append_drop 24 (words1.drop 24), List.all_append, w_t2, w_t3]
  rfl
set_option maxRecDepth 65536 in
theorem w_rest : rest_1_c.before args0 about1 = true := by decide +kernel
set_option maxRecDepth 65536 in
theorem w_case : (Jvm.Cond.and given_1 narrow_1).before args0 about1 = true := by decide +kernel
theorem w_applies : (headSpec (Jvm.Cond.code x code maxLocals ret :: tables_1) room_1).applies x e0.platform about1 = true :=
  (Spec.applies_iff w_frames).mpr ⟨w_running, w_runnable, w_alone, w_named, w_hears, w_ripe, w_room, w_tables⟩
theorem atStart : AtStart classFile x code maxLocals ret World_1 tables_1 room_1 Calls_1 rest_1 Pre_1 launch0 p0 e0 about1 theMethod args0 below0 :=
  ⟨lists_1, trivial, launch0.admits_env _ _ _, launch0.least_env, fairChoices_fair.cas, fairChoices_fair.clock, w_frames, w_args, w_heap, w_applies, trivial, w_rest, w_case⟩
end start1
theorem witness_1 : WitnessClaimed_1 := ⟨start1.p0, start1.e0, start1.about1, start1.theMethod, start1.args0, start1.below0, start1.atStart⟩
end Jvm.Pilot.@@N@@
