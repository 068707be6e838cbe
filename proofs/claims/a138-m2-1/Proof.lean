import JvmDerived
import JvmDerived.Pilot.@@N@@Statement
import JvmDerived.Pilot.@@N@@Code
set_option linter.unusedVariables false
set_option linter.unusedSimpArgs false
@@BLOCK:NumsL.lean.txt@@
/- laws to paste: Road.backV, Road.eqW, Road.codOf (cut by pick.py; bodies as the Statement names them) -/
namespace Jvm.Pilot.@@N@@
namespace StrChars
open Jvm Sem ClassFile Op Lib Jvm.Stand Jvm.Free.XT Jvm.Free.ALB Jvm.Free.JM Jvm.Free
open Jvm.Lib.Cold (StaticIs)
/-- a char array whose places are chars -/
def Ch (a : Addr) (A : Cell) (U : State) : Prop := Arr .char a A U ∧ Typed .char A
theorem Ch.mv {a : Addr} {A : Cell} {U U' : State} (h : Ch a A U) (hal : U.vm.Alike U'.vm) (hh : U'.heap = U.heap) : Ch a A U' := ⟨h.1.mv hal hh, h.2⟩
theorem Ch.keep {a : Addr} {A : Cell} {U U' : State} (h : Ch a A U) (hal : U.vm.Alike U'.vm) (hk : U'.heap[a]? = some A) : Ch a A U' := ⟨h.1.keep hal hk, h.2⟩
/-- what place i of a char[]'s cell holds -/
def cv (A : Cell) (i : Nat) : Int32 := match A.slots[i]? with | some (.int x) => x | _ => 0
theorem Ch.get {a : Addr} {A : Cell} {U : State} (h : Ch a A U) {i : Nat} (hi : i < A.slots.size) : A.slots[i]? = some (.int (cv A i)) := by
  have e := Array.getElem?_eq_getElem hi
  have f := h.2 i _ e
  unfold cv; rw [e]
  generalize A.slots[i] = v at f
  cases v <;> simp [fits] at f ⊢
/-- the byte that i2b leaves of a char -/
def lo8 (x : Int32) : Int32 := x.toInt8.toInt32
theorem fits_lo8 (y : Int32) : fits .byte (.int (lo8 y)) = true := by
  have h1 := y.toInt8.le_toInt
  have h2 := y.toInt8.toInt_lt
  simp only [lo8, fits, Bool.and_eq_true, decide_eq_true_eq, Int32.le_iff_toInt_le, Int8.toInt_toInt32, show (-128 : Int32).toInt = -128 from by decide, show (127 : Int32).toInt = 127 from by decide]
  omega
/-- A' is A but that each place j of lo .. hi - 1 holds f j -/
def Laid (A A' : Cell) (lo hi : Nat) (f : Nat → Value) : Prop := A'.cls = A.cls ∧ A'.vm = A.vm ∧ A'.slots.size = A.slots.size ∧ ∀ i, A'.slots[i]? = if lo ≤ i ∧ i < hi then some (f i) else A.slots[i]?
theorem Laid.zero (A : Cell) (lo : Nat) (f : Nat → Value) : Laid A A lo (lo + 0) f := ⟨rfl, rfl, rfl, fun i => by rw [if_neg (by omega)]⟩
theorem Laid.step {A Ak : Cell} {lo k : Nat} {f : Nat → Value} {v : Value} (h : Laid A Ak lo k f) (hlo : lo ≤ k) (hk : k < Ak.slots.size) (hv : v = f k) : Laid A (Ak.setSlot k v) lo (k + 1) f := by
  refine ⟨h.1, h.2.1, by simpa [Cell.setSlot] using h.2.2.1, fun i => ?_⟩
  by_cases e : k = i
  · subst e; rw [Cell.slots_setSlot_self v hk, if_pos (by omega), hv]
  · rw [Cell.slots_setSlot_ne v e, h.2.2.2 i]
    by_cases q : lo ≤ i ∧ i < k
    · rw [if_pos q, if_pos (by omega)]
    · rw [if_neg q, if_neg (by omega)]
def U16 : String := "java/lang/StringUTF16"
namespace Cmp5
def yN : MethodName := ⟨"java/lang/StringUTF16", "compress", "([CI[BII)I"⟩
abbrev yB : ByteArray := jdk_52_method_21_code
theorem d0 : decode yB 0 = .ok (.iconst 0, 1) := by decide +kernel
theorem d1 : decode yB 1 = .ok (.istore 5, 2) := by decide +kernel
theorem d3 : decode yB 3 = .ok (.iload 5, 2) := by decide +kernel
theorem d5 : decode yB 5 = .ok (.iload 4, 2) := by decide +kernel
theorem d7 : decode yB 7 = .ok (.if_icmp (.ge) 37, 3) := by decide +kernel
theorem d10 : decode yB 10 = .ok (.aload_n 0, 1) := by decide +kernel
theorem d11 : decode yB 11 = .ok (.iload_n 1, 1) := by decide +kernel
theorem d12 : decode yB 12 = .ok (.caload, 1) := by decide +kernel
theorem d13 : decode yB 13 = .ok (.istore 6, 2) := by decide +kernel
theorem d15 : decode yB 15 = .ok (.iload 6, 2) := by decide +kernel
theorem d17 : decode yB 17 = .ok (.sipush 255, 3) := by decide +kernel
theorem d20 : decode yB 20 = .ok (.if_icmp (.le) 6, 3) := by decide +kernel
theorem d26 : decode yB 26 = .ok (.aload_n 2, 1) := by decide +kernel
theorem d27 : decode yB 27 = .ok (.iload_n 3, 1) := by decide +kernel
theorem d28 : decode yB 28 = .ok (.iload 6, 2) := by decide +kernel
theorem d30 : decode yB 30 = .ok (.i2b, 1) := by decide +kernel
theorem d31 : decode yB 31 = .ok (.bastore, 1) := by decide +kernel
theorem d32 : decode yB 32 = .ok (.iinc 1 1, 3) := by decide +kernel
theorem d35 : decode yB 35 = .ok (.iinc 3 1, 3) := by decide +kernel
theorem d38 : decode yB 38 = .ok (.iinc 5 1, 3) := by decide +kernel
theorem d41 : decode yB 41 = .ok (.goto (-38), 3) := by decide +kernel
theorem d44 : decode yB 44 = .ok (.iload 4, 2) := by decide +kernel
theorem d46 : decode yB 46 = .ok (.ireturn, 1) := by decide +kernel
def site : List Cond := []
def tab : Cond := tabOf yN yB 7 (some .int) site
def P (b : Addr) (A : Cell) (d : Addr) (B : Cell) (o q len : Nat) (args : Array Value) (s : State) : Prop := args = #[.ref b, .int (Int32.ofNat o), .ref d, .int (Int32.ofNat q), .int (Int32.ofNat len)] ∧ Ch b A s ∧ Arr .byte d B s ∧ b ≠ d ∧ o + len ≤ A.slots.size ∧ q + len ≤ B.slots.size ∧ ∀ i, i < len → ¬ 255 < cv A (o + i)
def E (b : Addr) (A : Cell) (d : Addr) (B : Cell) (o q len : Nat) (r : Option Value) (s u : State) : Prop := r = some (.int (Int32.ofNat len)) ∧ ∃ B', Put d B' s u ∧ Laid B B' q (q + len) (fun j => Value.int (lo8 (cv A (o + (j - q)))))
/-- no char of the range above 255: len; the places written hold each char's low byte -/
theorem law (l : Launch) (b : Addr) (A : Cell) (d : Addr) (B : Cell) (o q len : Nat) : Law l yN 5 5 0 0 yB 7 (some .int) site (P b A d B o q len) (E b A d B o q len) (copyLocs d q len) 0 0 := by
  refine Law.of_walk (plainFor_of_name (by decide +kernel)) (by decide +kernel) (by decide +kernel) (by decide) (fun _ _ h => by rw [h.1]; rfl) (fun _ U U' hal hh h => ⟨h.1, h.2.1.mv hal hh, h.2.2.1.mv hal hh, h.2.2.2⟩) (fun r U U' V V' h1 hal h2 h => ⟨h.1, h.2.elim fun B' q => ⟨B', q.1.mv h1 h2, q.2⟩⟩) ?_
  intro p e s m args below meth c s₁ X0 hexec hbytes hml hret hlk hnm hown hh0 W hP
  obtain ⟨rfl, hA, hB, hne, l1, l2, hp⟩ := hP
  have c1 : Steps p.tables e below (s₁.setTop (entryFrame m #[.ref b, .int (Int32.ofNat o), .ref d, .int (Int32.ofNat q), .int (Int32.ofNat len)] 7)) (s₁.setTop (mkF m 0 #[.val (.ref b), .val (.int (Int32.ofNat o)), .val (.ref d), .val (.int (Int32.ofNat q)), .val (.int (Int32.ofNat len)), .unset, .unset] [])) := entry rfl
  have hA0 := hA.1.mv X0.warmed.alike hh0
  have hB0 := hB.mv X0.warmed.alike hh0
  have a31 := hA.1.2.2.2
  have c2 : Steps p.tables e below (s₁.setTop (entryFrame m #[.ref b, .int (Int32.ofNat o), .ref d, .int (Int32.ofNat q), .int (Int32.ofNat len)] 7)) (s₁.setTop (mkF m 3 #[.val (.ref b), .val (.int (Int32.ofNat o)), .val (.ref d), .val (.int (Int32.ofNat q)), .val (.int (Int32.ofNat len)), .val (.int 0), .unset] [])) := c1.trans (by
    refine iconstV X0.here hexec rfl 0 (hb hbytes d0) (by decide) ?_
    refine XS.istore X0.here hexec rfl (hb hbytes d1) rfl rfl ?_
    exact Steps.refl _)
  have loop : ∀ (r i : Nat), i + r = len → ∀ (z : Slot), (z = .unset ∨ ∃ w, z = .val w ∧ w.category = 1) → ∀ (Tl : State) (Bk : Cell), Stand p l e { frames := 0, locals := 0, cells := 0, slots := 0 } s m #[.ref b, .int (Int32.ofNat o), .ref d, .int (Int32.ofNat q), .int (Int32.ofNat len)] below meth c Tl ([] ++ copyLocs d q i) 0 0 → Put d Bk s₁ Tl → Laid B Bk q (q + i) (fun j => Value.int (lo8 (cv A (o + (j - q))))) →
      Steps p.tables e below (s₁.setTop (entryFrame m #[.ref b, .int (Int32.ofNat o), .ref d, .int (Int32.ofNat q), .int (Int32.ofNat len)] 7)) (Tl.setTop (mkF m 3 #[.val (.ref b), .val (.int (Int32.ofNat (o + i))), .val (.ref d), .val (.int (Int32.ofNat (q + i))), .val (.int (Int32.ofNat len)), .val (.int (Int32.ofNat i)), z] [])) → ∃ (T' : State) (B' : Cell) (z' : Slot), Stand p l e { frames := 0, locals := 0, cells := 0, slots := 0 } s m #[.ref b, .int (Int32.ofNat o), .ref d, .int (Int32.ofNat q), .int (Int32.ofNat len)] below meth c T' ([] ++ copyLocs d q len) 0 0 ∧ Put d B' s₁ T' ∧ Laid B B' q (q + len) (fun j => Value.int (lo8 (cv A (o + (j - q))))) ∧
      Steps p.tables e below (s₁.setTop (entryFrame m #[.ref b, .int (Int32.ofNat o), .ref d, .int (Int32.ofNat q), .int (Int32.ofNat len)] 7)) (T'.setTop (mkF m 3 #[.val (.ref b), .val (.int (Int32.ofNat (o + len))), .val (.ref d), .val (.int (Int32.ofNat (q + len))), .val (.int (Int32.ofNat len)), .val (.int (Int32.ofNat len)), z'] [])) := by
    intro r
    induction r with
    | zero =>
      intro i hi z hz Tl Bk Xl pl fl cl
      have hil : i = len := by omega
      rw [hil] at Xl fl cl
      exact ⟨Tl, Bk, z, Xl, pl, fl, cl⟩
    | succ r ih =>
      intro i hi z hz Tl Bk Xl pl fl cl
      have all := X0.warmed.alike.symm.trans Xl.warmed.alike
      have hAl := hA0.keep all (pl.other hne hA0.1)
      have hBk := hB0.like all pl.1 fl.1 fl.2.1 fl.2.2.1
      have hlt : q + i < Bk.slots.size := by rw [fl.2.2.1]; omega
      have c3 : Steps p.tables e below (s₁.setTop (entryFrame m #[.ref b, .int (Int32.ofNat o), .ref d, .int (Int32.ofNat q), .int (Int32.ofNat len)] 7)) (Tl.setTop (mkF m 12 #[.val (.ref b), .val (.int (Int32.ofNat (o + i))), .val (.ref d), .val (.int (Int32.ofNat (q + i))), .val (.int (Int32.ofNat len)), .val (.int (Int32.ofNat i)), z] [.int (Int32.ofNat (o + i)), .ref b])) := cl.trans (by
        refine XS.iload Xl.here hexec rfl (hb hbytes d3) rfl ?_
        refine XS.iload Xl.here hexec rfl (hb hbytes d5) rfl ?_
        refine XS.icmpNo Xl.here hexec rfl (hb hbytes d7) rfl (ii_ge_f (lt32 (by omega) (by omega))) ?_
        refine XS.aloadN Xl.here hexec rfl (hb hbytes d10) rfl rfl ?_
        refine XS.iloadN Xl.here hexec rfl (hb hbytes d11) rfl ?_
        exact Steps.refl _)
      have c4 : Steps p.tables e below (s₁.setTop (entryFrame m #[.ref b, .int (Int32.ofNat o), .ref d, .int (Int32.ofNat q), .int (Int32.ofNat len)] 7)) (Tl.setTop (mkF m 13 #[.val (.ref b), .val (.int (Int32.ofNat (o + i))), .val (.ref d), .val (.int (Int32.ofNat (q + i))), .val (.int (Int32.ofNat len)), .val (.int (Int32.ofNat i)), z] [.int (cv A (o + i))])) := c3.trans (by
        refine Xl.aget hexec hAl rfl (hA.get (i := o + i) (by omega)) rfl rfl (hb hbytes d12) ?_
        exact Steps.refl _)
      have c5 : Steps p.tables e below (s₁.setTop (entryFrame m #[.ref b, .int (Int32.ofNat o), .ref d, .int (Int32.ofNat q), .int (Int32.ofNat len)] 7)) (Tl.setTop (mkF m 15 #[.val (.ref b), .val (.int (Int32.ofNat (o + i))), .val (.ref d), .val (.int (Int32.ofNat (q + i))), .val (.int (Int32.ofNat len)), .val (.int (Int32.ofNat i)), .val (.int (cv A (o + i)))] [])) := c4.trans (by
        refine XS.istoreS Xl.here hexec rfl (hb hbytes d13) rfl rfl hz ?_
        exact Steps.refl _)
      have c6 : Steps p.tables e below (s₁.setTop (entryFrame m #[.ref b, .int (Int32.ofNat o), .ref d, .int (Int32.ofNat q), .int (Int32.ofNat len)] 7)) (Tl.setTop (mkF m 31 #[.val (.ref b), .val (.int (Int32.ofNat (o + i))), .val (.ref d), .val (.int (Int32.ofNat (q + i))), .val (.int (Int32.ofNat len)), .val (.int (Int32.ofNat i)), .val (.int (cv A (o + i)))] [.int (lo8 (cv A (o + i))), .int (Int32.ofNat (q + i)), .ref d])) := c5.trans (by
        refine XS.iload Xl.here hexec rfl (hb hbytes d15) rfl ?_
        refine sipushV Xl.here hexec rfl 255 (hb hbytes d17) (by decide) ?_
        refine XS.icmpYes Xl.here hexec rfl (pc0 := 20) rfl (hb hbytes d20) rfl (ii_le_t (hp i (by omega))) (by decide) rfl ?_
        refine XS.aloadN Xl.here hexec rfl (hb hbytes d26) rfl rfl ?_
        refine XS.iloadN Xl.here hexec rfl (hb hbytes d27) rfl ?_
        refine XS.iload Xl.here hexec rfl (hb hbytes d28) rfl ?_
        refine i2b Xl.here hexec rfl (hb hbytes d30) rfl ?_
        exact Steps.refl _)
      obtain ⟨T7, X7, p7, st7⟩ := Xl.aput hexec hBk rfl hlt rfl (fits_lo8 (cv A (o + i))) (g := (mkF m 31 #[.val (.ref b), .val (.int (Int32.ofNat (o + i))), .val (.ref d), .val (.int (Int32.ofNat (q + i))), .val (.int (Int32.ofNat len)), .val (.int (Int32.ofNat i)), .val (.int (cv A (o + i)))] [.int (lo8 (cv A (o + i))), .int (Int32.ofNat (q + i)), .ref d])) rfl (rest := []) rfl (hb hbytes d31)
      have c8 : Steps p.tables e below (s₁.setTop (entryFrame m #[.ref b, .int (Int32.ofNat o), .ref d, .int (Int32.ofNat q), .int (Int32.ofNat len)] 7)) (T7.setTop (mkF m 32 #[.val (.ref b), .val (.int (Int32.ofNat (o + i))), .val (.ref d), .val (.int (Int32.ofNat (q + i))), .val (.int (Int32.ofNat len)), .val (.int (Int32.ofNat i)), .val (.int (cv A (o + i)))] [])) := c6.trans (st7 _ (Steps.refl _))
      have c9 : Steps p.tables e below (s₁.setTop (entryFrame m #[.ref b, .int (Int32.ofNat o), .ref d, .int (Int32.ofNat q), .int (Int32.ofNat len)] 7)) (T7.setTop (mkF m 3 #[.val (.ref b), .val (.int (Int32.ofNat (o + i) + 1)), .val (.ref d), .val (.int (Int32.ofNat (q + i) + 1)), .val (.int (Int32.ofNat len)), .val (.int (Int32.ofNat i + 1)), .val (.int (cv A (o + i)))] [])) := c8.trans (by
        refine iincV X7.here hexec rfl 1 (hb hbytes d32) (by decide) rfl rfl ?_
        refine iincV X7.here hexec rfl 1 (hb hbytes d35) (by decide) rfl rfl ?_
        refine iincV X7.here hexec rfl 1 (hb hbytes d38) (by decide) rfl rfl ?_
        refine XS.goto X7.here hexec rfl (pc0 := 41) rfl (hb hbytes d41) (by decide) rfl ?_
        exact Steps.refl _)
      have c10 : Steps p.tables e below (s₁.setTop (entryFrame m #[.ref b, .int (Int32.ofNat o), .ref d, .int (Int32.ofNat q), .int (Int32.ofNat len)] 7)) (T7.setTop (mkF m 3 #[.val (.ref b), .val (.int (Int32.ofNat (o + (i + 1)))), .val (.ref d), .val (.int (Int32.ofNat (q + (i + 1)))), .val (.int (Int32.ofNat len)), .val (.int (Int32.ofNat (i + 1))), .val (.int (cv A (o + i)))] [])) := by
        have := c9
        rw [succ32, succ32, succ32] at this
        exact this
      exact ih (i + 1) (by omega) _ (Or.inr ⟨_, rfl, rfl⟩) T7 _ (by rw [copyLocs_step, ← List.append_assoc]; exact X7) (pl.trans p7) (fl.step (by omega) hlt (by simp)) c10
  obtain ⟨T9, B9, z9, X9, p9, f9, g9⟩ := loop len 0 (by omega) .unset (Or.inl rfl) s₁ B (by simpa [copyLocs] using X0) ⟨hB0.1, fun _ _ => rfl, rfl⟩ (Laid.zero _ _ _) c2
  have c11 : Steps p.tables e below (s₁.setTop (entryFrame m #[.ref b, .int (Int32.ofNat o), .ref d, .int (Int32.ofNat q), .int (Int32.ofNat len)] 7)) (T9.setTop (mkF m 46 #[.val (.ref b), .val (.int (Int32.ofNat (o + len))), .val (.ref d), .val (.int (Int32.ofNat (q + len))), .val (.int (Int32.ofNat len)), .val (.int (Int32.ofNat len)), z9] [.int (Int32.ofNat len)])) := g9.trans (by
    refine XS.iload X9.here hexec rfl (hb hbytes d3) rfl ?_
    refine XS.iload X9.here hexec rfl (hb hbytes d5) rfl ?_
    refine XS.icmpYes X9.here hexec rfl (pc0 := 7) rfl (hb hbytes d7) rfl (ii_ge_t (nlt32 (by omega) (Nat.le_refl _))) (by decide) rfl ?_
    refine XS.iload X9.here hexec rfl (hb hbytes d44) rfl ?_
    exact Steps.refl _)
  exact ⟨T9, some (.int (Int32.ofNat len)), _, _, _, X9, by simp, rfl, rfl, (fun h => by cases h), ⟨rfl, B9, p9.from hh0, f9⟩, fun fs hl => c11.trans (X9.ireturnOut hexec hret rfl (Or.inl rfl) (hb hbytes d46) hl)⟩
end Cmp5
namespace Cmp3
def yN : MethodName := ⟨"java/lang/StringUTF16", "compress", "([CII)[B"⟩
abbrev yB : ByteArray := jdk_52_method_16_code
theorem d0 : decode yB 0 = .ok (.iload_n 2, 1) := by decide +kernel
theorem d1 : decode yB 1 = .ok (.newarray .byte, 2) := by decide +kernel
theorem d3 : decode yB 3 = .ok (.astore_n 3, 1) := by decide +kernel
theorem d4 : decode yB 4 = .ok (.aload_n 0, 1) := by decide +kernel
theorem d5 : decode yB 5 = .ok (.iload_n 1, 1) := by decide +kernel
theorem d6 : decode yB 6 = .ok (.aload_n 3, 1) := by decide +kernel
theorem d7 : decode yB 7 = .ok (.iconst 0, 1) := by decide +kernel
theorem d8 : decode yB 8 = .ok (.iload_n 2, 1) := by decide +kernel
theorem d9 : decode yB 9 = .ok (.invokestatic 115, 3) := by decide +kernel
theorem d12 : decode yB 12 = .ok (.istore 4, 2) := by decide +kernel
theorem d14 : decode yB 14 = .ok (.iload 4, 2) := by decide +kernel
theorem d16 : decode yB 16 = .ok (.iload_n 2, 1) := by decide +kernel
theorem d17 : decode yB 17 = .ok (.if_icmp (.eq) 40, 3) := by decide +kernel
theorem d57 : decode yB 57 = .ok (.aload_n 3, 1) := by decide +kernel
theorem d58 : decode yB 58 = .ok (.areturn, 1) := by decide +kernel
def site : List Cond := [.arrayClass .byte, Cmp5.tab] ++ staticW U16 115 Cmp5.yN
def tab : Cond := tabOf yN yB 6 (some (.array .byte)) site
def P (b : Addr) (A : Cell) (o len : Nat) (args : Array Value) (s : State) : Prop := args = #[.ref b, .int (Int32.ofNat o), .int (Int32.ofNat len)] ∧ Ch b A s ∧ o + len ≤ A.slots.size ∧ len ≤ 536870912 ∧ ∀ i, i < len → ¬ 255 < cv A (o + i)
def E (b : Addr) (A : Cell) (o len : Nat) (r : Option Value) (s u : State) : Prop := NewArr .byte "[B" len (fun j => .int (lo8 (cv A (o + j)))) r s u ∧ u.heap.size = s.heap.size + 1
/-- no char of the range above 255: a new byte[] of their low bytes -/
theorem law (l : Launch) (b : Addr) (A : Cell) (o len : Nat) : Law l yN 3 3 1 18 yB 6 (some (.array .byte)) site (P b A o len) (E b A o len) [] 1 len := by
  refine Law.of_walk (plainFor_of_name (by decide +kernel)) (by decide +kernel) (by decide +kernel) (by decide) (fun _ _ h => by rw [h.1]; rfl) (fun _ U U' hal hh h => ⟨h.1, h.2.1.mv hal hh, h.2.2⟩) (fun r U U' V V' h1 hal h2 h => ⟨NewArr.mv r U U' V V' h1 hal h2 h.1, by rw [h1, h2]; exact h.2⟩) ?_
  intro p e s m args below meth c s₁ X0 hexec hbytes hml hret hlk hnm hown hh0 W hP
  obtain ⟨rfl, hA, l1, l2, hp⟩ := hP
  have a31 := hA.1.2.2.2
  have c1 : Steps p.tables e below (s₁.setTop (entryFrame m #[.ref b, .int (Int32.ofNat o), .int (Int32.ofNat len)] 6)) (s₁.setTop (mkF m 0 #[.val (.ref b), .val (.int (Int32.ofNat o)), .val (.int (Int32.ofNat len)), .unset, .unset, .unset] [])) := entry rfl
  have c2 : Steps p.tables e below (s₁.setTop (entryFrame m #[.ref b, .int (Int32.ofNat o), .int (Int32.ofNat len)] 6)) (s₁.setTop (mkF m 1 #[.val (.ref b), .val (.int (Int32.ofNat o)), .val (.int (Int32.ofNat len)), .unset, .unset, .unset] [.int (Int32.ofNat len)])) := c1.trans (by
    refine XS.iloadN X0.here hexec rfl (hb hbytes d0) rfl ?_
    exact Steps.refl _)
  obtain ⟨T3, B3, X3, ba3, bs3, bv3, bh3, bf3, st3⟩ := X0.anew hexec (atype := .byte) (wk W (.arrayClass .byte)) rfl (by show len * 1 ≤ _; omega) (by omega) (g := (mkF m 1 #[.val (.ref b), .val (.int (Int32.ofNat o)), .val (.int (Int32.ofNat len)), .unset, .unset, .unset] [.int (Int32.ofNat len)])) rfl (hb hbytes d1) (rest := []) rfl (Nat.le_refl _) (by show 0 + len ≤ len; omega)
  rw [hh0] at ba3 st3
  have kp3 : XT.Kept s T3 := (XT.Kept.of_eq hh0).push bh3
  have hA3 := hA.keep X3.warmed.alike (kp3 _ _ hA.1.1)
  have hne : b ≠ s.heap.size := hA.1.ne
  have c4 : Steps p.tables e below (s₁.setTop (entryFrame m #[.ref b, .int (Int32.ofNat o), .int (Int32.ofNat len)] 6)) (T3.setTop (mkF m 3 #[.val (.ref b), .val (.int (Int32.ofNat o)), .val (.int (Int32.ofNat len)), .unset, .unset, .unset] [.ref s.heap.size])) := c2.trans (st3 _ (Steps.refl _))
  have c5 : Steps p.tables e below (s₁.setTop (entryFrame m #[.ref b, .int (Int32.ofNat o), .int (Int32.ofNat len)] 6)) (T3.setTop (mkF m 9 #[.val (.ref b), .val (.int (Int32.ofNat o)), .val (.int (Int32.ofNat len)), .val (.ref s.heap.size), .unset, .unset] [.int (Int32.ofNat len), .int 0, .ref s.heap.size, .int (Int32.ofNat o), .ref b])) := c4.trans (by
    refine XS.astoreN X3.here hexec rfl (hb hbytes d3) rfl rfl rfl ?_
    refine XS.aloadN X3.here hexec rfl (hb hbytes d4) rfl rfl ?_
    refine XS.iloadN X3.here hexec rfl (hb hbytes d5) rfl ?_
    refine XS.aloadN X3.here hexec rfl (hb hbytes d6) rfl rfl ?_
    refine iconstV X3.here hexec rfl 0 (hb hbytes d7) (by decide) ?_
    refine XS.iloadN X3.here hexec rfl (hb hbytes d8) rfl ?_
    exact Steps.refl _)
  obtain ⟨v6, T6, X6, E6, g6⟩ := X3.callS hexec (Cmp5.law l b A s.heap.size B3 o 0 len) hown (wks W (staticW U16 115 Cmp5.yN)) (wk W Cmp5.tab) (W := 0) (Nat.le_of_ble_eq_true rfl) (Nat.le_of_ble_eq_true rfl) (Nat.le_refl _) (by show 0 + len + 0 ≤ len; omega) (g := (mkF m 9 #[.val (.ref b), .val (.int (Int32.ofNat o)), .val (.int (Int32.ofNat len)), .val (.ref s.heap.size), .unset, .unset] [.int (Int32.ofNat len), .int (Int32.ofNat 0), .ref s.heap.size, .int (Int32.ofNat o), .ref b])) rfl (by rw [hml]; rfl) c5 (argsL := [.ref b, .int (Int32.ofNat o), .ref s.heap.size, .int (Int32.ofNat 0), .int (Int32.ofNat len)]) (rest := []) rfl rfl (by show 2 * 0 + 0 ≤ _; decide) (hb hbytes d9) (⟨rfl, hA3, ba3, hne, l1, by rw [bs3]; simp, hp⟩)
  obtain ⟨rfl, B6, p6, f6⟩ := E6
  have c7 : Steps p.tables e below (s₁.setTop (entryFrame m #[.ref b, .int (Int32.ofNat o), .int (Int32.ofNat len)] 6)) (T6.setTop (mkF m 12 #[.val (.ref b), .val (.int (Int32.ofNat o)), .val (.int (Int32.ofNat len)), .val (.ref s.heap.size), .unset, .unset] [.int (Int32.ofNat len)])) := g6
  have c8 : Steps p.tables e below (s₁.setTop (entryFrame m #[.ref b, .int (Int32.ofNat o), .int (Int32.ofNat len)] 6)) (T6.setTop (mkF m 58 #[.val (.ref b), .val (.int (Int32.ofNat o)), .val (.int (Int32.ofNat len)), .val (.ref s.heap.size), .val (.int (Int32.ofNat len)), .unset] [.ref s.heap.size])) := c7.trans (by
    refine XS.istore X6.here hexec rfl (hb hbytes d12) rfl rfl ?_
    refine XS.iload X6.here hexec rfl (hb hbytes d14) rfl ?_
    refine XS.iloadN X6.here hexec rfl (hb hbytes d16) rfl ?_
    refine XS.icmpYes X6.here hexec rfl (pc0 := 17) rfl (hb hbytes d17) rfl (ii_eq_t rfl) (by decide) rfl ?_
    refine XS.aloadN X6.here hexec rfl (hb hbytes d57) rfl rfl ?_
    exact Steps.refl _)
  have X8 := X6.wide (L' := []) (cells' := 1) (slots' := len) (fun x hx hlt => by
    simp only [List.nil_append, copyLocs, List.mem_map, List.mem_range] at hx
    obtain ⟨i, -, rfl⟩ := hx
    exact absurd hlt (Nat.lt_irrefl _)) (Nat.le_refl _) (by omega)
  exact ⟨T6, some (.ref s.heap.size), _, _, _, X8, rfl, rfl, rfl, (fun h => by cases h), ⟨⟨rfl, B6, ba3.like (X3.warmed.alike.symm.trans X6.warmed.alike) p6.1 f6.1 f6.2.1 f6.2.2.1, f6.2.1.trans bv3, by rw [X6.warmed.alike.findClass, f6.1]; exact bf3, by rw [f6.2.2.1, bs3]; simp, fun j hj => by rw [f6.2.2.2 j, if_pos (by omega)]; rfl, kp3.put p6 (Nat.le_refl _)⟩, by rw [p6.2.2, bh3, hh0]; simp⟩, fun fs hl => c8.trans (X8.areturnOut hexec rfl hret rfl (hb hbytes d58) hl)⟩
end Cmp3
namespace CodL
def yN : MethodName := ⟨"java/lang/StringUTF16", "coderFromArrayLen", "([BI)B"⟩
abbrev yB : ByteArray := jdk_52_method_15_code
theorem d0 : decode yB 0 = .ok (.iload_n 1, 1) := by decide +kernel
theorem d1 : decode yB 1 = .ok (.aload_n 0, 1) := by decide +kernel
theorem d2 : decode yB 2 = .ok (.arraylength, 1) := by decide +kernel
theorem d3 : decode yB 3 = .ok (.isub, 1) := by decide +kernel
theorem d4 : decode yB 4 = .ok (.bipush 31, 2) := by decide +kernel
theorem d6 : decode yB 6 = .ok (.iushr, 1) := by decide +kernel
theorem d7 : decode yB 7 = .ok (.i2b, 1) := by decide +kernel
theorem d8 : decode yB 8 = .ok (.ireturn, 1) := by decide +kernel
def site : List Cond := []
def tab : Cond := tabOf yN yB 2 (some .byte) site
def P (d : Addr) (B : Cell) (args : Array Value) (s : State) : Prop := args = #[.ref d, .int (Int32.ofNat B.slots.size)] ∧ Arr .byte d B s
def E (r : Option Value) (s u : State) : Prop := XT.PureE (some (.int 0)) r s u
/-- an array as long as the number of chars: LATIN1 -/
theorem law (l : Launch) (d : Addr) (B : Cell) : Law l yN 2 2 0 0 yB 2 (some .byte) site (P d B) E [] 0 0 := by
  refine Law.of_walk (plainFor_of_name (by decide +kernel)) (by decide +kernel) (by decide +kernel) (by decide) (fun _ _ h => by rw [h.1]; rfl) (fun _ U U' hal hh h => ⟨h.1, h.2.mv hal hh⟩) (fun r U U' V V' h1 hal h2 h => XT.PureE.mv r U U' V V' h1 hal h2 h) ?_
  intro p e s m args below meth c s₁ X0 hexec hbytes hml hret hlk hnm hown hh0 W hP
  obtain ⟨rfl, hB⟩ := hP
  have hB0 := hB.mv X0.warmed.alike hh0
  have c1 : Steps p.tables e below (s₁.setTop (entryFrame m #[.ref d, .int (Int32.ofNat B.slots.size)] 2)) (s₁.setTop (mkF m 0 #[.val (.ref d), .val (.int (Int32.ofNat B.slots.size))] [])) := entry rfl
  have c2 : Steps p.tables e below (s₁.setTop (entryFrame m #[.ref d, .int (Int32.ofNat B.slots.size)] 2)) (s₁.setTop (mkF m 2 #[.val (.ref d), .val (.int (Int32.ofNat B.slots.size))] [.ref d, .int (Int32.ofNat B.slots.size)])) := c1.trans (by
    refine XS.iloadN X0.here hexec rfl (hb hbytes d0) rfl ?_
    refine XS.aloadN X0.here hexec rfl (hb hbytes d1) rfl rfl ?_
    exact Steps.refl _)
  have c3 : Steps p.tables e below (s₁.setTop (entryFrame m #[.ref d, .int (Int32.ofNat B.slots.size)] 2)) (s₁.setTop (mkF m 8 #[.val (.ref d), .val (.int (Int32.ofNat B.slots.size))] [.int (lo8 (ushr (Int32.ofNat B.slots.size - Int32.ofNat B.slots.size) 31))])) := c2.trans (by
    refine X0.alen hexec hB0 rfl rfl (hb hbytes d2) ?_
    refine XS.isub X0.here hexec rfl (hb hbytes d3) rfl ?_
    refine bipushV X0.here hexec rfl 31 (hb hbytes d4) (by decide) ?_
    refine iushr X0.here hexec rfl (hb hbytes d6) rfl ?_
    refine i2b X0.here hexec rfl (hb hbytes d7) rfl ?_
    exact Steps.refl _)
  have e0 : lo8 (ushr (Int32.ofNat B.slots.size - Int32.ofNat B.slots.size) 31) = 0 := by rw [Int32.sub_self]; decide
  rw [e0] at c3
  exact ⟨s₁, some (.int 0), _, _, _, X0, rfl, rfl, rfl, (fun h => by cases h), ⟨rfl, hh0⟩, fun fs hl => c3.trans (X0.ireturnOut hexec hret rfl (Or.inr (Or.inr (Or.inl rfl))) (hb hbytes d8) hl)⟩
end CodL
/-- the String at a is Latin-1 over a new byte[] (the heap's one new cell): the low bytes of the len chars of A from o on; every cell but a is kept -/
def Got (a : Addr) (D : Cell) (fV fC : Field) (A : Cell) (o len : Nat) (r : Option Value) (s u : State) : Prop := r = none ∧ ∃ D' V : Cell, Blank "java/lang/String" a D' u ∧ Same D D' [fV.slot, fC.slot] ∧ D'.slots[fV.slot]? = some (.ref s.heap.size) ∧ D'.slots[fC.slot]? = some (.int 0) ∧ Arr .byte s.heap.size V u ∧ V.vm = .none ∧ u.vm.findClass "[B" = some V.cls ∧ V.slots.size = len ∧ (∀ j, j < len → V.slots[j]? = some (.int (lo8 (cv A (o + j))))) ∧ (∀ (y : Addr) (c : Cell), y ≠ a → s.heap[y]? = some c → u.heap[y]? = some c) ∧ u.heap.size = s.heap.size + 1
theorem Got.mv {a : Addr} {D A : Cell} {fV fC : Field} {o len : Nat} : ∀ r (U U' V V' : State), U'.heap = U.heap → V.vm.Alike V'.vm → V'.heap = V.heap → Got a D fV fC A o len r U V → Got a D fV fC A o len r U' V' :=
  fun r U U' V V' h1 hal h2 ⟨e0, D', X, a1, a2, a3, a4, a5, a6, a7, a8, a9, a10, a11⟩ => ⟨e0, D', X, a1.mv hal h2, a2, by rw [h1]; exact a3, a4, by rw [h1]; exact a5.mv hal h2, a6, by rw [hal.findClass]; exact a7, a8, a9, by rw [h1, h2]; exact a10, by rw [h1, h2]; exact a11⟩
namespace New4
def yN : MethodName := ⟨"java/lang/String", "<init>", "([CIILjava/lang/Void;)V"⟩
abbrev yB : ByteArray := jdk_42_method_149_code
theorem d0 : decode yB 0 = .ok (.aload_n 0, 1) := by decide +kernel
theorem d1 : decode yB 1 = .ok (.invokespecial 1, 3) := by decide +kernel
theorem d4 : decode yB 4 = .ok (.iload_n 3, 1) := by decide +kernel
theorem d5 : decode yB 5 = .ok (.ifCond (.ne) 22, 3) := by decide +kernel
theorem d27 : decode yB 27 = .ok (.getstatic 38, 3) := by decide +kernel
theorem d30 : decode yB 30 = .ok (.ifCond (.eq) 28, 3) := by decide +kernel
theorem d33 : decode yB 33 = .ok (.aload_n 1, 1) := by decide +kernel
theorem d34 : decode yB 34 = .ok (.iload_n 2, 1) := by decide +kernel
theorem d35 : decode yB 35 = .ok (.iload_n 3, 1) := by decide +kernel
theorem d36 : decode yB 36 = .ok (.invokestatic 177, 3) := by decide +kernel
theorem d39 : decode yB 39 = .ok (.astore 5, 2) := by decide +kernel
theorem d41 : decode yB 41 = .ok (.aload_n 0, 1) := by decide +kernel
theorem d42 : decode yB 42 = .ok (.aload 5, 2) := by decide +kernel
theorem d44 : decode yB 44 = .ok (.iload_n 3, 1) := by decide +kernel
theorem d45 : decode yB 45 = .ok (.invokestatic 47, 3) := by decide +kernel
theorem d48 : decode yB 48 = .ok (.putfield 15, 3) := by decide +kernel
theorem d51 : decode yB 51 = .ok (.aload_n 0, 1) := by decide +kernel
theorem d52 : decode yB 52 = .ok (.aload 5, 2) := by decide +kernel
theorem d54 : decode yB 54 = .ok (.putfield 9, 3) := by decide +kernel
theorem d57 : decode yB 57 = .ok (.return_, 1) := by decide +kernel
def site : List Cond := [.fieldLink "java/lang/String" 38 "java/lang/String" "COMPACT_STRINGS" "Z", Cmp3.tab, CodL.tab, .laysFinal "java/lang/String" "java/lang/String" "value" "[B", .fieldLink "java/lang/String" 9 "java/lang/String" "value" "[B", .laysFinal "java/lang/String" "java/lang/String" "coder" "B", .fieldLink "java/lang/String" 15 "java/lang/String" "coder" "B"] ++ objW "java/lang/String" 1 ++ staticW "java/lang/String" 177 Cmp3.yN ++ staticW "java/lang/String" 47 CodL.yN
def tab : Cond := tabOf yN yB 6 none site
def P (a : Addr) (D : Cell) (fV fC : Field) (b : Addr) (A : Cell) (z : Int32) (o len : Nat) (args : Array Value) (s : State) : Prop := args = #[.ref a, .ref b, .int (Int32.ofNat o), .int (Int32.ofNat len), .null] ∧ Blank "java/lang/String" a D s ∧ Found "java/lang/String" "value" "[B" fV s ∧ Found "java/lang/String" "coder" "B" fC s ∧ Ch b A s ∧ StaticIs s "java/lang/String" "COMPACT_STRINGS" "Z" (.int z) ∧ ¬ z = 0 ∧ 0 < len ∧ o + len ≤ A.slots.size ∧ len ≤ 536870912 ∧ ∀ i, i < len → ¬ 255 < cv A (o + i)
def E (a : Addr) (D : Cell) (fV fC : Field) (A : Cell) (o len : Nat) (r : Option Value) (s u : State) : Prop := Got a D fV fC A o len r s u
/-- len > 0, no char of the range above 255: a Latin-1 String of their low bytes -/
theorem law (l : Launch) (a : Addr) (D : Cell) (fV fC : Field) (b : Addr) (A : Cell) (z : Int32) (o len : Nat) : Law l yN 5 4 2 35 yB 6 none site (P a D fV fC b A z o len) (E a D fV fC A o len) [⟨a, fC.slot⟩, ⟨a, fV.slot⟩] 1 len := by
  refine Law.of_walk (plainFor_of_name (by decide +kernel)) (by decide +kernel) (by decide +kernel) (by decide) (fun _ _ h => by rw [h.1]; rfl) (fun _ U U' hal hh h => ⟨h.1, h.2.1.mv hal hh, h.2.2.1.al hal, h.2.2.2.1.al hal, h.2.2.2.2.1.mv hal hh, h.2.2.2.2.2.1.there hal hh, h.2.2.2.2.2.2⟩) (fun r U U' V V' h1 hal h2 h => Got.mv r U U' V V' h1 hal h2 h) ?_
  intro p e s m args below meth c s₁ X0 hexec hbytes hml hret hlk hnm hown hh0 W hP
  obtain ⟨rfl, hB, f1, f2, hA, s1, hz, l0, l1, l2, hp⟩ := hP
  have a31 := hA.1.2.2.2
  have c1 : Steps p.tables e below (s₁.setTop (entryFrame m #[.ref a, .ref b, .int (Int32.ofNat o), .int (Int32.ofNat len), .null] 6)) (s₁.setTop (mkF m 0 #[.val (.ref a), .val (.ref b), .val (.int (Int32.ofNat o)), .val (.int (Int32.ofNat len)), .val .null, .unset] [])) := entry rfl
  have c2 : Steps p.tables e below (s₁.setTop (entryFrame m #[.ref a, .ref b, .int (Int32.ofNat o), .int (Int32.ofNat len), .null] 6)) (s₁.setTop (mkF m 1 #[.val (.ref a), .val (.ref b), .val (.int (Int32.ofNat o)), .val (.int (Int32.ofNat len)), .val .null, .unset] [.ref a])) := c1.trans (by
    refine XS.aloadN X0.here hexec rfl (hb hbytes d0) rfl rfl ?_
    exact Steps.refl _)
  obtain ⟨T3, X3, q3, st3⟩ := X0.oinit hexec hown (wks W (objW "java/lang/String" 1)) (g := (mkF m 1 #[.val (.ref a), .val (.ref b), .val (.int (Int32.ofNat o)), .val (.int (Int32.ofNat len)), .val .null, .unset] [.ref a])) rfl (by rw [hml]; rfl) (rest := []) rfl (hb hbytes d1) (W := 0) (by show 2 * 0 + 0 ≤ _; decide) (Nat.le_of_ble_eq_true rfl) (Nat.le_of_ble_eq_true rfl)
  have hh3 := q3.trans hh0
  have c4 : Steps p.tables e below (s₁.setTop (entryFrame m #[.ref a, .ref b, .int (Int32.ofNat o), .int (Int32.ofNat len), .null] 6)) (T3.setTop (mkF m 27 #[.val (.ref a), .val (.ref b), .val (.int (Int32.ofNat o)), .val (.int (Int32.ofNat len)), .val .null, .unset] [])) := (c2.trans (st3 _ (Steps.refl _))).trans (by
    refine XS.iloadN X3.here hexec rfl (hb hbytes d4) rfl ?_
    refine XS.ifYes X3.here hexec rfl (pc0 := 5) rfl (hb hbytes d5) rfl (i0_ne_t (nz32 (by omega) l0)) (by decide) rfl ?_
    exact Steps.refl _)
  obtain ⟨T5, X5, q5, st5⟩ := X3.sget hexec hown (wk W (.fieldLink "java/lang/String" 38 "java/lang/String" "COMPACT_STRINGS" "Z")) s1 (fun _ _ h => by rw [hh3]; exact h) (g := (mkF m 27 #[.val (.ref a), .val (.ref b), .val (.int (Int32.ofNat o)), .val (.int (Int32.ofNat len)), .val .null, .unset] [])) rfl (hb hbytes d27)
  have hh5 := q5.trans hh3
  have c6 : Steps p.tables e below (s₁.setTop (entryFrame m #[.ref a, .ref b, .int (Int32.ofNat o), .int (Int32.ofNat len), .null] 6)) (T5.setTop (mkF m 30 #[.val (.ref a), .val (.ref b), .val (.int (Int32.ofNat o)), .val (.int (Int32.ofNat len)), .val .null, .unset] [.int z])) := c4.trans (st5 _ (Steps.refl _))
  have c7 : Steps p.tables e below (s₁.setTop (entryFrame m #[.ref a, .ref b, .int (Int32.ofNat o), .int (Int32.ofNat len), .null] 6)) (T5.setTop (mkF m 36 #[.val (.ref a), .val (.ref b), .val (.int (Int32.ofNat o)), .val (.int (Int32.ofNat len)), .val .null, .unset] [.int (Int32.ofNat len), .int (Int32.ofNat o), .ref b])) := c6.trans (by
    refine XS.ifNo X5.here hexec rfl (hb hbytes d30) rfl (i0_eq_f hz) ?_
    refine XS.aloadN X5.here hexec rfl (hb hbytes d33) rfl rfl ?_
    refine XS.iloadN X5.here hexec rfl (hb hbytes d34) rfl ?_
    refine XS.iloadN X5.here hexec rfl (hb hbytes d35) rfl ?_
    exact Steps.refl _)
  obtain ⟨v8, T8, X8, E8, g8⟩ := X5.callS hexec (Cmp3.law l b A o len) hown (wks W (staticW "java/lang/String" 177 Cmp3.yN)) (wk W Cmp3.tab) (W := 0) (Nat.le_of_ble_eq_true rfl) (Nat.le_of_ble_eq_true rfl) (Nat.le_refl _) (by show 0 + len ≤ len; omega) (g := (mkF m 36 #[.val (.ref a), .val (.ref b), .val (.int (Int32.ofNat o)), .val (.int (Int32.ofNat len)), .val .null, .unset] [.int (Int32.ofNat len), .int (Int32.ofNat o), .ref b])) rfl (by rw [hml]; rfl) c7 (argsL := [.ref b, .int (Int32.ofNat o), .int (Int32.ofNat len)]) (rest := []) rfl rfl (by show 2 * 0 + 0 ≤ _; decide) (hb hbytes d36) (⟨rfl, hA.mv X5.warmed.alike hh5, l1, l2, hp⟩)
  obtain ⟨e8, z8⟩ := E8
  obtain ⟨rfl, N, n1, n2, n3, n4, n5, n6⟩ := NewArr.mv _ T5 s _ _ hh5.symm (Vm.Alike.refl _) rfl e8
  rw [hh5] at z8
  have hB1 := hB.keep X8.warmed.alike (n6 _ _ hB.1)
  have hne : s.heap.size ≠ a := (Nat.ne_of_lt (Array.getElem?_eq_some_iff.mp hB.1).1).symm
  have c9 : Steps p.tables e below (s₁.setTop (entryFrame m #[.ref a, .ref b, .int (Int32.ofNat o), .int (Int32.ofNat len), .null] 6)) (T8.setTop (mkF m 39 #[.val (.ref a), .val (.ref b), .val (.int (Int32.ofNat o)), .val (.int (Int32.ofNat len)), .val .null, .unset] [.ref s.heap.size])) := g8
  have c10 : Steps p.tables e below (s₁.setTop (entryFrame m #[.ref a, .ref b, .int (Int32.ofNat o), .int (Int32.ofNat len), .null] 6)) (T8.setTop (mkF m 45 #[.val (.ref a), .val (.ref b), .val (.int (Int32.ofNat o)), .val (.int (Int32.ofNat len)), .val .null, .val (.ref s.heap.size)] [.int (Int32.ofNat N.slots.size), .ref s.heap.size, .ref a])) := by
    have hc : Steps p.tables e below (s₁.setTop (entryFrame m #[.ref a, .ref b, .int (Int32.ofNat o), .int (Int32.ofNat len), .null] 6)) (T8.setTop (mkF m 45 #[.val (.ref a), .val (.ref b), .val (.int (Int32.ofNat o)), .val (.int (Int32.ofNat len)), .val .null, .val (.ref s.heap.size)] [.int (Int32.ofNat len), .ref s.heap.size, .ref a])) := c9.trans (by
      refine XS.astore X8.here hexec rfl (hb hbytes d39) rfl rfl rfl ?_
      refine XS.aloadN X8.here hexec rfl (hb hbytes d41) rfl rfl ?_
      refine XS.aload X8.here hexec rfl (hb hbytes d42) rfl rfl ?_
      refine XS.iloadN X8.here hexec rfl (hb hbytes d44) rfl ?_
      exact Steps.refl _)
    rw [n4]; exact hc
  obtain ⟨v11, T11, X11, E11, g11⟩ := X8.callS hexec (CodL.law l s.heap.size N) hown (wks W (staticW "java/lang/String" 47 CodL.yN)) (wk W CodL.tab) (W := 1) (Nat.le_of_ble_eq_true rfl) (Nat.le_of_ble_eq_true rfl) (Nat.le_refl _) (by show 0 + len + 0 ≤ len; omega) (g := (mkF m 45 #[.val (.ref a), .val (.ref b), .val (.int (Int32.ofNat o)), .val (.int (Int32.ofNat len)), .val .null, .val (.ref s.heap.size)] [.int (Int32.ofNat N.slots.size), .ref s.heap.size, .ref a])) rfl (by rw [hml]; rfl) c10 (argsL := [.ref s.heap.size, .int (Int32.ofNat N.slots.size)]) (rest := [.ref a]) rfl rfl (by show 2 * 0 + (1 + 0) ≤ _; decide) (hb hbytes d45) (⟨rfl, n1⟩)
  obtain ⟨rfl, q11⟩ := E11
  have hB11 := hB1.mv (X8.warmed.alike.symm.trans X11.warmed.alike) q11
  have c12 : Steps p.tables e below (s₁.setTop (entryFrame m #[.ref a, .ref b, .int (Int32.ofNat o), .int (Int32.ofNat len), .null] 6)) (T11.setTop (mkF m 48 #[.val (.ref a), .val (.ref b), .val (.int (Int32.ofNat o)), .val (.int (Int32.ofNat len)), .val .null, .val (.ref s.heap.size)] [.int 0, .ref a])) := g11
  obtain ⟨T13, X13, p13, bl13, sl13, st13⟩ := X11.finit hexec hown (wk W (.fieldLink "java/lang/String" 15 "java/lang/String" "coder" "B")) (Or.inr ⟨_, (wk W (.laysFinal "java/lang/String" "java/lang/String" "coder" "B"))⟩) (Or.inl ⟨rfl, hnm⟩) f2 (Or.inl rfl) hB11 (t := .byte) (by decide +kernel) rfl (g := (mkF m 48 #[.val (.ref a), .val (.ref b), .val (.int (Int32.ofNat o)), .val (.int (Int32.ofNat len)), .val .null, .val (.ref s.heap.size)] [.int 0, .ref a])) rfl (rest := []) rfl (hb hbytes d48)
  have c14 : Steps p.tables e below (s₁.setTop (entryFrame m #[.ref a, .ref b, .int (Int32.ofNat o), .int (Int32.ofNat len), .null] 6)) (T13.setTop (mkF m 54 #[.val (.ref a), .val (.ref b), .val (.int (Int32.ofNat o)), .val (.int (Int32.ofNat len)), .val .null, .val (.ref s.heap.size)] [.ref s.heap.size, .ref a])) := (c12.trans (st13 _ (Steps.refl _))).trans (by
    refine XS.aloadN X13.here hexec rfl (hb hbytes d51) rfl rfl ?_
    refine XS.aload X13.here hexec rfl (hb hbytes d52) rfl rfl ?_
    exact Steps.refl _)
  obtain ⟨T15, X15, p15, bl15, sl15, st15⟩ := X13.finit hexec hown (wk W (.fieldLink "java/lang/String" 9 "java/lang/String" "value" "[B")) (Or.inr ⟨_, (wk W (.laysFinal "java/lang/String" "java/lang/String" "value" "[B"))⟩) (Or.inl ⟨rfl, hnm⟩) f1 (Or.inl rfl) bl13 (t := (.array .byte)) (by decide +kernel) rfl (g := (mkF m 54 #[.val (.ref a), .val (.ref b), .val (.int (Int32.ofNat o)), .val (.int (Int32.ofNat len)), .val .null, .val (.ref s.heap.size)] [.ref s.heap.size, .ref a])) rfl (rest := []) rfl (hb hbytes d54)
  have c16 : Steps p.tables e below (s₁.setTop (entryFrame m #[.ref a, .ref b, .int (Int32.ofNat o), .int (Int32.ofNat len), .null] 6)) (T15.setTop (mkF m 57 #[.val (.ref a), .val (.ref b), .val (.int (Int32.ofNat o)), .val (.int (Int32.ofNat len)), .val .null, .val (.ref s.heap.size)] [])) := c14.trans (st15 _ (Steps.refl _))
  have ap := apart (Or.inr ⟨_, (wk W (.laysFinal "java/lang/String" "java/lang/String" "value" "[B"))⟩) (Or.inr ⟨_, (wk W (.laysFinal "java/lang/String" "java/lang/String" "coder" "B"))⟩) f1 f2 (t₁ := .array .byte) (t₂ := .byte) (by decide +kernel) (by decide +kernel) (by decide)
  have al := X8.warmed.alike.symm.trans X15.warmed.alike
  have n7 : T11.heap[s.heap.size]? = some N := by rw [q11]; exact n1.1
  exact ⟨T15, none, _, _, _, X15, by simp, rfl, by omega, (fun _ => rfl), ⟨rfl, _, N, bl15, ((Same.refl D _).set _ (by simp)).set _ (by simp), sl15, (Cell.slots_setSlot_ne _ ap).trans sl13, n1.keep al (p15.other hne (p13.other hne n7)), n2, by rw [al.findClass]; exact n3, n4, n5, fun y c h1 h2 => p15.other h1 (p13.other h1 (by rw [q11]; exact n6 y c h2)), by rw [p15.2.2, p13.2.2, q11]; exact z8⟩, fun fs hl => c16.trans (X15.returnOut hexec hret (hb hbytes d57) hl)⟩
end New4
namespace New1
def yN : MethodName := ⟨"java/lang/String", "<init>", "([C)V"⟩
abbrev yB : ByteArray := jdk_42_method_3_code
theorem d0 : decode yB 0 = .ok (.aload_n 0, 1) := by decide +kernel
theorem d1 : decode yB 1 = .ok (.aload_n 1, 1) := by decide +kernel
theorem d2 : decode yB 2 = .ok (.iconst 0, 1) := by decide +kernel
theorem d3 : decode yB 3 = .ok (.aload_n 1, 1) := by decide +kernel
theorem d4 : decode yB 4 = .ok (.arraylength, 1) := by decide +kernel
theorem d5 : decode yB 5 = .ok (.aconst_null, 1) := by decide +kernel
theorem d6 : decode yB 6 = .ok (.invokespecial 27, 3) := by decide +kernel
theorem d9 : decode yB 9 = .ok (.return_, 1) := by decide +kernel
def site : List Cond := [New4.tab] ++ initW "java/lang/String" 27 New4.yN
def tab : Cond := tabOf yN yB 2 none site
def P (a : Addr) (D : Cell) (fV fC : Field) (b : Addr) (A : Cell) (z : Int32) (args : Array Value) (s : State) : Prop := args = #[.ref a, .ref b] ∧ Blank "java/lang/String" a D s ∧ Found "java/lang/String" "value" "[B" fV s ∧ Found "java/lang/String" "coder" "B" fC s ∧ Ch b A s ∧ StaticIs s "java/lang/String" "COMPACT_STRINGS" "Z" (.int z) ∧ ¬ z = 0 ∧ 0 < A.slots.size ∧ A.slots.size ≤ 536870912 ∧ ∀ i, i < A.slots.size → ¬ 255 < cv A i
def E (a : Addr) (D : Cell) (fV fC : Field) (A : Cell) (r : Option Value) (s u : State) : Prop := Got a D fV fC A 0 A.slots.size r s u
/-- new String(chars), not empty, no char above 255: a Latin-1 String of their low bytes -/
theorem law (l : Launch) (a : Addr) (D : Cell) (fV fC : Field) (b : Addr) (A : Cell) (z : Int32) : Law l yN 2 1 3 52 yB 2 none site (P a D fV fC b A z) (E a D fV fC A) [⟨a, fC.slot⟩, ⟨a, fV.slot⟩] 1 A.slots.size := by
  refine Law.of_walk (plainFor_of_name (by decide +kernel)) (by decide +kernel) (by decide +kernel) (by decide) (fun _ _ h => by rw [h.1]; rfl) (fun _ U U' hal hh h => ⟨h.1, h.2.1.mv hal hh, h.2.2.1.al hal, h.2.2.2.1.al hal, h.2.2.2.2.1.mv hal hh, h.2.2.2.2.2.1.there hal hh, h.2.2.2.2.2.2⟩) (fun r U U' V V' h1 hal h2 h => Got.mv r U U' V V' h1 hal h2 h) ?_
  intro p e s m args below meth c s₁ X0 hexec hbytes hml hret hlk hnm hown hh0 W hP
  obtain ⟨rfl, hB, f1, f2, hA, s1, hz, l0, l2, hp⟩ := hP
  have c1 : Steps p.tables e below (s₁.setTop (entryFrame m #[.ref a, .ref b] 2)) (s₁.setTop (mkF m 0 #[.val (.ref a), .val (.ref b)] [])) := entry rfl
  have c2 : Steps p.tables e below (s₁.setTop (entryFrame m #[.ref a, .ref b] 2)) (s₁.setTop (mkF m 6 #[.val (.ref a), .val (.ref b)] [.null, .int (Int32.ofNat A.slots.size), .int 0, .ref b, .ref a])) := c1.trans (by
    refine XS.aloadN X0.here hexec rfl (hb hbytes d0) rfl rfl ?_
    refine XS.aloadN X0.here hexec rfl (hb hbytes d1) rfl rfl ?_
    refine iconstV X0.here hexec rfl 0 (hb hbytes d2) (by decide) ?_
    refine XS.aloadN X0.here hexec rfl (hb hbytes d3) rfl rfl ?_
    refine X0.alen hexec (hA.1.mv X0.warmed.alike hh0) rfl rfl (hb hbytes d4) ?_
    refine XS.aconstNull X0.here hexec rfl (hb hbytes d5) ?_
    exact Steps.refl _)
  obtain ⟨v3, T3, X3, E3, g3⟩ := X0.callN hexec (New4.law l a D fV fC b A z 0 A.slots.size) rfl hown (wks W (initW "java/lang/String" 27 New4.yN)) (W New4.tab (by simp only [site, List.mem_cons, List.mem_append, true_or, or_true])) (W := 0) (Nat.le_of_ble_eq_true rfl) (Nat.le_of_ble_eq_true rfl) (Nat.le_refl _) (by show 0 + A.slots.size ≤ A.slots.size; omega) (g := (mkF m 6 #[.val (.ref a), .val (.ref b)] [.null, .int (Int32.ofNat A.slots.size), .int (Int32.ofNat 0), .ref b, .ref a])) rfl (by rw [hml]; rfl) c2 (argsL := [.ref b, .int (Int32.ofNat 0), .int (Int32.ofNat A.slots.size), .null]) (rest := []) rfl rfl (by show 2 * 0 + 0 ≤ _; decide) (hb hbytes d6) (⟨rfl, hB.mv X0.warmed.alike hh0, f1.al X0.warmed.alike, f2.al X0.warmed.alike, hA.mv X0.warmed.alike hh0, s1.there X0.warmed.alike hh0, hz, l0, by omega, l2, fun i hi => by rw [Nat.zero_add]; exact hp i hi⟩)
  have e0 := Got.mv _ s₁ s _ _ hh0.symm (Vm.Alike.refl _) rfl E3
  obtain rfl := e0.1
  have c4 : Steps p.tables e below (s₁.setTop (entryFrame m #[.ref a, .ref b] 2)) (T3.setTop (mkF m 9 #[.val (.ref a), .val (.ref b)] [])) := g3
  exact ⟨T3, none, _, _, _, X3, by simp, rfl, by omega, (fun _ => rfl), e0, fun fs hl => c4.trans (X3.returnOut hexec hret (hb hbytes d9) hl)⟩
theorem pays {l : Launch} {R : Room} {p : Program} {e : Env} {below : List Frame} {s : State} {sargs : Array Value} {len W : Nat} (a : Addr) (D : Cell) (fV fC : Field) (b : Addr) (A : Cell) (z : Int32) (htab : tab.before sargs s = true) (hfr : 4 ≤ R.frames) (hlo : W + 65 ≤ R.locals) :
    Back l R p e below s sargs yN len W (fun A₁ a₁ => A₁.cells + 1 ≤ R.cells ∧ A₁.slots + A.slots.size ≤ R.slots ∧ P a D fV fC b A z a₁ A₁.U) (fun A₁ _ v₁ B₁ => E a D fV fC A v₁ A₁.U B₁.U ∧ B₁.locs = A₁.locs ++ [⟨a, fC.slot⟩, ⟨a, fV.slot⟩] ∧ B₁.cells = A₁.cells + 1 ∧ B₁.slots = A₁.slots + A.slots.size) :=
  (law l a D fV fC b A z).pays htab hfr (by omega)
end New1
/-- the byte, read back as charAt reads it, is the char -/
theorem lo8_mask {x : Int32} (h0 : ¬ x < 0) (h1 : ¬ 255 < x) : lo8 x &&& 255 = x := by
  have t : ∀ k : Fin 256, lo8 (Int32.ofNat k.val) &&& 255 = Int32.ofNat k.val := by decide +kernel
  rw [Int32.lt_iff_toInt_lt] at h0 h1
  have e0 : (0 : Int32).toInt = 0 := rfl
  have e1 : (255 : Int32).toInt = 255 := rfl
  obtain ⟨k, hk⟩ : ∃ k : Nat, x.toInt = k := ⟨x.toInt.toNat, by omega⟩
  have hx : x = Int32.ofNat k := Int32.toInt_inj.mp (by rw [hk, Int32.toInt_ofNat_small (by omega)])
  rw [hx]
  exact t ⟨k, by omega⟩
end StrChars
namespace StrChars.Road
open Jvm Sem ClassFile Op Lib Jvm.Stand Jvm.Free Jvm.Free.XT
open Jvm.Lib.Cold (StaticIs)
abbrev ST : String := "java/lang/String"
/-- every table word that New1's law asks, flat -/
abbrev words : List Jvm.Cond := [.code New1.yN New1.yB 2 none, .initialized ST, .methodLink ST 27 New4.yN, .instanceMethod New4.yN,
  .code New4.yN New4.yB 6 none, .fieldLink ST 38 ST "COMPACT_STRINGS" "Z", .laysFinal ST ST "value" "[B", .fieldLink ST 9 ST "value" "[B", .laysFinal ST ST "coder" "B", .fieldLink ST 15 ST "coder" "B",
  .methodLink ST 1 Lib.objectInit, .instanceMethod Lib.objectInit, .code Lib.objectInit ⟨#[0xb1]⟩ 1 none, .methodLink ST 177 Cmp3.yN, .static Cmp3.yN, .methodLink ST 47 CodL.yN, .static CodL.yN,
  .code Cmp3.yN Cmp3.yB 6 (some (.array .byte)), .initialized U16, .arrayClass .byte, .methodLink U16 115 Cmp5.yN, .static Cmp5.yN, .code Cmp5.yN Cmp5.yB 7 (some .int), .code CodL.yN CodL.yB 2 (some .byte)]
theorem tab_of {a : Array Value} {s : State} (h : ∀ w ∈ words, w.before a s = true) : New1.tab.before a s = true := by
  have h5 : Cmp5.tab.before a s = true := unparts (wk h (.code Cmp5.yN Cmp5.yB 7 (some .int))) (wks h (.initialized Cmp5.yN.cls :: Cmp5.site))
  have hc : CodL.tab.before a s = true := unparts (wk h (.code CodL.yN CodL.yB 2 (some .byte))) (wks h (.initialized CodL.yN.cls :: CodL.site))
  have q5 : ∀ w ∈ Cmp5.tab :: words, w.before a s = true := fun w hw => (List.mem_cons.mp hw).elim (fun e => e ▸ h5) (h w)
  have h3 : Cmp3.tab.before a s = true := unparts (wk q5 (.code Cmp3.yN Cmp3.yB 6 (some (.array .byte)))) (wks q5 (.initialized Cmp3.yN.cls :: Cmp3.site))
  have q3 : ∀ w ∈ Cmp3.tab :: CodL.tab :: words, w.before a s = true := fun w hw => (List.mem_cons.mp hw).elim (fun e => e ▸ h3) fun hw => (List.mem_cons.mp hw).elim (fun e => e ▸ hc) (h w)
  have h4 : New4.tab.before a s = true := unparts (wk q3 (.code New4.yN New4.yB 6 none)) (wks q3 (.initialized New4.yN.cls :: New4.site))
  have q4 : ∀ w ∈ New4.tab :: words, w.before a s = true := fun w hw => (List.mem_cons.mp hw).elim (fun e => e ▸ h4) (h w)
  exact unparts (wk q4 (.code New1.yN New1.yB 2 none)) (wks q4 (.initialized New1.yN.cls :: New1.site))
/-- the words ride from the start Z to the walk's own state -/
theorem moved {Z s : State} {a0 args : Array Value} (hZ : Z.Warmed39 s.vm) (hw : ∀ d ∈ words, d.before a0 Z = true) : ∀ d ∈ words, d.before args s = true := fun d hd => by
  have q := hw d hd
  have t : ∀ d ∈ words, d = .arrayClass .byte ∨ (d.onTables && d.keepsFace) = true := by decide +kernel
  rcases t d hd with rfl | t
  · exact RoadKit.mvA hZ q
  · exact RoadKit.mv hZ q t
/-- WHAT COMES BACK, over the tables of the start Z: h the heap at the call, h' behind it -/
def Q (Z : State) (x : Addr) (A : Cell) (h : Heap) (v : Option Value) (h' : Heap) (L : List Loc) : Prop := v = none ∧ (∀ y ∈ L, y.base = x) ∧ RoadKit.Keep h h' [x] ∧ h'.size = h.size + 1 ∧ RoadKit.Exa Z h' x ST ∧ RoadKit.Fld Z h' x ST "value" "[B" (.ref h.size) ∧ RoadKit.Fld Z h' x ST "coder" "B" (.int 0) ∧
  (∃ V : Cell, RoadKit.Arr Z h' h.size V .byte ∧ V.vm = .none ∧ Z.vm.findClass "[B" = some V.cls ∧ V.slots.size = A.slots.size ∧ ∀ j, j < A.slots.size → V.slots[j]? = some (.int (lo8 (cv A j)))) ∧
  ∀ (O n d : String) (w : Value), RoadKit.Fld Z h x O n d w → RoadKit.slotOf Z O n d ≠ RoadKit.slotOf Z ST "value" "[B" → RoadKit.slotOf Z O n d ≠ RoadKit.slotOf Z ST "coder" "B" → RoadKit.Fld Z h' x O n d w
/-- **new String(chars) AT A CALL, IN THE ROAD'S FORM**: for specialBack behind newO: x the fresh String, b the char[] with the cell A -/
theorem back {p : Program} {l : Launch} {e : Env} {R : Room} {s : State} {args : Array Value} {below : List Frame} {len W : Nat} {Z : State} {a0 : Array Value} {h : Heap} (hZ : Z.Warmed39 s.vm) (hw : ∀ d ∈ words, d.before a0 Z = true) {kI : Nat} (wi : (Jvm.Cond.instantiable ST kI).before a0 Z = true)
    {x b : Addr} {A : Cell} {z : Int32} {v0 c0 : Value} (E : RoadKit.Exa Z h x ST) (V : RoadKit.Fld Z h x ST "value" "[B" v0) (C : RoadKit.Fld Z h x ST "coder" "B" c0) (K : RoadKit.Arr Z h b A .char) (hty : Typed .char A) (S : RoadKit.Sta Z h ST "COMPACT_STRINGS" "Z" (.int z)) (hz : ¬ z = 0)
    (l0 : 0 < A.slots.size) (l2 : A.slots.size ≤ 536870912) (hp : ∀ i, i < A.slots.size → ¬ 255 < cv A i) (hfr : 4 ≤ R.frames) (hlo : W + 65 ≤ R.locals) :
    Back l R p e below s args New1.yN len W (fun P a => a = #[.ref x, .ref b] ∧ P.U.heap = h ∧ P.cells + 1 ≤ R.cells ∧ P.slots + A.slots.size ≤ R.slots)
      (fun P _ v B => ∃ L, Q Z x A h v B.U.heap L ∧ B.locs = P.locs ++ L ∧ B.cells = P.cells + 1 ∧ B.slots = P.slots + A.slots.size) := by
  intro m meth c P g ig mk a X hg hsize hdg hW hn hp'
  obtain ⟨rfl, rfl, r1, r2⟩ := hp'
  have al : Z.vm.Alike P.U.vm := hZ.alike.trans X.warmed.alike
  obtain ⟨D, cfV, kV, iV, fV, hD, gV, stV, knV, obV, asV, slV⟩ := id V
  obtain ⟨D', cfC, kC, iC, fC, hD', gC, stC, -, -, asC, slC⟩ := id C
  cases hD.symm.trans hD'
  obtain ⟨D2, kD, e1, e2, e3, e4, e5⟩ := id E
  cases hD.symm.trans e1
  obtain ⟨c2, k2, i1, i2, i3, -⟩ := Cond.instantiable_spec wi
  cases e2.symm.trans i1
  cases e3.symm.trans i2
  obtain ⟨kU, u1, u2⟩ := al.2.2 _ _ e3
  have hB : Blank ST x D P.U := ⟨hD, ⟨knV, fun q hq => by rw [hq] at obV; cases obV⟩, by rw [al.findClass]; exact e2, kU, u1, by rw [u2]; exact i3, by rw [u2]; exact e5 i3⟩
  have F1 : Found ST "value" "[B" fV P.U := ⟨SBG.found_only al ⟨cfV, kV, iV, gV⟩, stV⟩
  have F2 : Found ST "coder" "B" fC P.U := ⟨SBG.found_only al ⟨cfC, kC, iC, gC⟩, stC⟩
  have hA : Ch b A P.U := ⟨⟨K.1, State.isArrayOf_alike al K.2.1, K.2.2, by omega⟩, hty⟩
  have hS : StaticIs P.U ST "COMPACT_STRINGS" "Z" (.int z) := by
    obtain ⟨cfS, iS, kS, fS, st, cS, t1, t2, t3, t4, t5, t6, t7⟩ := S
    exact StaticIs.there (s := { Z with heap := P.U.heap }) ⟨cfS, iS, kS, fS, st, cS, t1, t2, t3, t4, t5, (fun q => by rw [q] at t6; cases t6), t7⟩ al rfl
  obtain ⟨v, B, X', ⟨⟨hv, E', V', q1, q2, q3, q4, q5, q6, q7, q8, q9, q10, q11⟩, hl, hc, hs⟩, st⟩ := New1.pays x D fV fC b A z (tab_of (moved hZ hw)) hfr hlo m meth c P g ig mk _ X hg hsize hdg hW hn ⟨r1, r2, rfl, hB, F1, F2, hA, hS, hz, l0, l2, hp⟩
  have al' : Z.vm.Alike B.U.vm := hZ.alike.trans X'.warmed.alike
  have hsz : E'.slots.size = D.slots.size := by
    obtain ⟨-, -, -, kB, w1, w2, w3⟩ := q1
    obtain ⟨kB', y1, y2⟩ := al'.2.2 _ _ e3
    rw [q2.2.1] at w1
    cases w1.symm.trans y1
    rw [w3, e5 i3, y2]
  refine ⟨v, B, X', ⟨_, ⟨hv, ?_, ⟨by omega, fun y cy hy hn' => q10 y cy (by simpa using hn') hy, fun y cy hy => ?_⟩, q11, ⟨E', _, q1.1, by rw [q2.2.1]; exact e2, by rw [q2.2.1]; exact e3, by rw [q2.1]; exact obV, fun _ => by rw [hsz]; exact e5 i3⟩,
    ⟨E', cfV, kV, iV, fV, q1.1, gV, stV, by rw [q2.1]; exact knV, by rw [q2.1]; exact obV, by rw [q2.2.1]; exact asV, q3⟩, ⟨E', cfC, kC, iC, fC, q1.1, gC, stC, by rw [q2.1]; exact knV, by rw [q2.1]; exact obV, by rw [q2.2.1]; exact asC, q4⟩,
    ⟨V', ⟨q5.1, State.isArrayOf_alike al'.symm q5.2.1, q5.2.2.1⟩, q6, by rw [← al'.findClass]; exact q7, q8, fun j hj => by have := q9 j hj; rwa [Nat.zero_add] at this⟩, fun O n d w F n1 n2 => ?_⟩, hl, hc, hs⟩, st⟩
  · intro y hy
    simp only [List.mem_cons, List.not_mem_nil, or_false] at hy
    rcases hy with rfl | rfl <;> rfl
  · by_cases q : y = x
    · subst q
      cases hD.symm.trans hy
      exact ⟨E', q1.1, q2.2.1, q2.1, hsz⟩
    · exact ⟨cy, q10 y cy q hy, rfl, rfl, rfl⟩
  · obtain ⟨D3, cf, k, i, f, g1, g2, g3, g4, g5, g6, g7⟩ := F
    cases hD.symm.trans g1
    simp only [RoadKit.slotOf, g2, gV, gC, Option.map_some, Option.getD_some] at n1 n2
    exact ⟨E', cf, k, i, f, q1.1, g2, g3, by rw [q2.1]; exact g4, by rw [q2.1]; exact g5, by rw [q2.2.1]; exact g6, by rw [q2.2.2 f.slot (by simp [n1, n2])]; exact g7⟩
end StrChars.Road
namespace StrChars.Road
open Jvm Sem ClassFile Op Lib Jvm.Stand Jvm.Free Jvm.Free.XT
/-- WHAT COMES BACK, the byte[] as a list of values -/
def QA (Z : State) (x : Addr) (zn : Int32) (cs : List Int32) (h : Heap) (v : Option Value) (h' : Heap) (L : List Loc) : Prop := v = none ∧ (∀ y ∈ L, y.base = x) ∧ RoadKit.Keep h h' [x] ∧ h'.size = h.size + 1 ∧ RoadKit.Exa Z h' x ST ∧ RoadKit.Fld Z h' x ST "value" "[B" (.ref h.size) ∧ RoadKit.Fld Z h' x ST "coder" "B" (.int 0) ∧
  (∃ kb, Z.vm.findClass "[B" = some kb ∧ RoadKit.Arv Z h' h.size kb .byte zn (cs.map fun c => .int (lo8 c)) (.int 0)) ∧
  ∀ (O n d : String) (w : Value), RoadKit.Fld Z h x O n d w → RoadKit.slotOf Z O n d ≠ RoadKit.slotOf Z ST "value" "[B" → RoadKit.slotOf Z O n d ≠ RoadKit.slotOf Z ST "coder" "B" → RoadKit.Fld Z h' x O n d w
/-- **new String(chars) AT A CALL, THE ARRAYS AS LISTS**: the char[] at b holds cs, not empty, no char above 255 -/
theorem backArv {p : Program} {l : Launch} {e : Env} {R : Room} {s : State} {args : Array Value} {below : List Frame} {len W : Nat} {Z : State} {a0 : Array Value} {h : Heap} (hZ : Z.Warmed39 s.vm) (hw : ∀ d ∈ words, d.before a0 Z = true) {kI : Nat} (wi : (Jvm.Cond.instantiable ST kI).before a0 Z = true)
    {x b : Addr} {k : ClassId} {zn z : Int32} {cs : List Int32} {dv v0 c0 : Value} (E : RoadKit.Exa Z h x ST) (V : RoadKit.Fld Z h x ST "value" "[B" v0) (C : RoadKit.Fld Z h x ST "coder" "B" c0) (K : RoadKit.Arv Z h b k .char zn (cs.map Value.int) dv) (S : RoadKit.Sta Z h ST "COMPACT_STRINGS" "Z" (.int z)) (hz : ¬ z = 0)
    (hlen : zn.toNatClampNeg = cs.length) (h0 : 0 < cs.length) (hbig : cs.length ≤ 536870912) (hall : ∀ c ∈ cs, ¬ 255 < c) (hfr : 4 ≤ R.frames) (hlo : W + 65 ≤ R.locals) :
    Back l R p e below s args New1.yN len W (fun P a => a = #[.ref x, .ref b] ∧ P.U.heap = h ∧ P.cells + 1 ≤ R.cells ∧ P.slots + cs.length ≤ R.slots)
      (fun P _ v B => ∃ L, QA Z x zn cs h v B.U.heap L ∧ B.locs = P.locs ++ L ∧ B.cells = P.cells + 1 ∧ B.slots = P.slots + cs.length) := by
  obtain ⟨A, K1, K2, K3, K4, K5, K6⟩ := K
  have e : A.slots.size = cs.length := K3.trans hlen
  have hat : ∀ (i : Nat) (hi : i < cs.length), A.slots[i]? = some (.int cs[i]) := fun i hi => by rw [K5 i (by omega)]; simp [List.getD_eq_getElem?_getD, hi]
  have hcv : ∀ (i : Nat) (hi : i < cs.length), cv A i = cs[i] := fun i hi => by unfold cv; rw [hat i hi]
  have hty : Typed .char A := fun i v hv => by
    have hi : i < A.slots.size := (Array.getElem?_eq_some_iff.mp hv).1
    have q := K5 i hi
    rw [hv] at q
    rw [Option.some.inj q]
    exact K6 i hi
  refine Back.mono (back hZ hw wi E V C K1 hty S hz (by omega) (by omega) (fun i hi => by rw [hcv i (by omega)]; exact hall _ (List.getElem_mem _)) hfr hlo) (fun P a hp => ⟨hp.1, hp.2.1, hp.2.2.1, by rw [e]; exact hp.2.2.2⟩) (fun P a v B hp hq => ?_)
  obtain ⟨L, ⟨q1, q2, q3, q4, q5, q6, q7, ⟨V', v1, v2, v3, v4, v5⟩, q9⟩, hl, hc, hs⟩ := hq
  refine ⟨L, ⟨q1, q2, q3, q4, q5, q6, q7, ⟨V'.cls, v3, V', v1, rfl, by rw [v4, e, hlen], K4, fun i hi => ?_, fun i hi => ?_⟩, q9⟩, hl, hc, by rw [hs, e]⟩
  · have hi' : i < cs.length := by omega
    rw [v5 i (by omega), hcv i hi']; simp [List.getD_eq_getElem?_getD, hi']
  · have hi' : i < cs.length := by omega
    simp only [List.getD_eq_getElem?_getD, List.getElem?_map, List.getElem?_eq_getElem hi', Option.map_some, Option.getD_some]
    exact fits_lo8 _
end StrChars.Road
namespace StrChars.Road
open Jvm Sem ClassFile Op Lib Jvm.Stand Jvm.Free Jvm.Free.XT
/-- WHAT COMES BACK, in the writer's own shape -/
def QV (Z : State) (x : Addr) (N : Int32) (bs : List Int32) (h : Heap) (n0 : Nat) (v : Option Value) (h' : Heap) (L : List Loc) : Prop := v = none ∧ RoadKit.Fr n0 L ∧ RoadKit.Keep h h' [x] ∧ RoadKit.Exa Z h' x ST ∧ RoadKit.Fld Z h' x ST "coder" "B" (.int 0) ∧
  ∃ (t : Addr) (kb : ClassId), n0 ≤ t ∧ h.size ≤ t ∧ ¬ t = x ∧ RoadKit.Fld Z h' x ST "value" "[B" (.ref t) ∧ RoadKit.Arv Z h' t kb .byte N (bs.map Value.int) (.int 0)
/-- **new String(chars) AT A CALL, FOR THE WRITER**: a char[] of n known ints, each 0 to 255 -/
theorem backV {p : Program} {l : Launch} {e : Env} {R : Room} {s : State} {args : Array Value} {below : List Frame} {len W : Nat} {Z : State} {a0 : Array Value} {h : Heap} (hZ : Z.Warmed39 s.vm) (hw : ∀ d ∈ words, d.before a0 Z = true) {kI : Nat} (wi : (Jvm.Cond.instantiable ST kI).before a0 Z = true)
    {x b : Addr} {kC : ClassId} {cs bs : List Int32} {d v0 c0 : Value} {z N : Int32} {n n0 : Nat} (hx0 : n0 ≤ x) (hh0 : n0 ≤ h.size) (E : RoadKit.Exa Z h x ST) (V : RoadKit.Fld Z h x ST "value" "[B" v0) (C : RoadKit.Fld Z h x ST "coder" "B" c0) (K : RoadKit.Arv Z h b kC .char N (cs.map Value.int) d) (S : RoadKit.Sta Z h ST "COMPACT_STRINGS" "Z" (.int z)) (hz : ¬ z = 0)
    (hn : cs.length = n) (hN : N = Int32.ofNat n) (l0 : 0 < n) (l2 : n ≤ 4000) (hp : ∀ c ∈ cs, ¬ c < 0 ∧ ¬ (255 : Int32) < c) (hb : bs = cs.map (fun c => c.toInt8.toInt32)) (hfr : 4 ≤ R.frames) (hlo : W + 65 ≤ R.locals) :
    Back l R p e below s args (⟨"java/lang/String", "<init>", "([C)V"⟩ : MethodName) len W (fun P a => a = #[.ref x, .ref b] ∧ P.U.heap = h ∧ P.cells + 1 ≤ R.cells ∧ P.slots + n ≤ R.slots)
      (fun P _ v B => ∃ L, QV Z x N bs h n0 v B.U.heap L ∧ B.locs = P.locs ++ L ∧ B.cells = P.cells + 1 ∧ B.slots = P.slots + n) := by
  subst hn hN hb
  refine Back.mono (backArv hZ hw wi E V C K S hz (n32 (by omega)) l0 (by omega) (fun c hc => (hp c hc).2) hfr hlo) (fun P a hp => hp) (fun P a v B hp hq => ?_)
  obtain ⟨L, ⟨q1, q2, q3, q4, q5, q6, q7, ⟨kb, v1, v2⟩, q9⟩, hl, hc, hs⟩ := hq
  exact ⟨L, ⟨q1, fun y hy => by rw [q2 y hy]; exact hx0, q3, q5, q7, h.size, kb, hh0, Nat.le_refl _, Nat.ne_of_gt E.lt, q6, by rw [List.map_map]; exact v2⟩, hl, hc, hs⟩
end StrChars.Road
namespace StrChars
open Jvm Sem ClassFile Op Lib Jvm.Stand Jvm.Free.XT Jvm.Free.ALB Jvm.Free.JM Jvm.Free
open Jvm.Lib.Cold (StaticIs)
def hi8 (x : Int32) : Int32 := lo8 (x >>> ((8 : Int32) &&& 31))
/-- what StringUTF16.getChar makes of two bytes -/
def pairCh (u v : Int32) : Int32 := (((u &&& 255) <<< ((0 : Int32) &&& 31)) ||| ((v &&& 255) <<< ((8 : Int32) &&& 31))).toUInt32.toUInt16.toUInt32.toInt32
theorem lo8_and (x : Int32) : (lo8 x &&& 255).toBitVec.toNat = x.toBitVec.toNat % 256 := by
  have h : (lo8 x).toBitVec = (x.toBitVec.signExtend 8).signExtend 32 := by rw [lo8, Int8.toBitVec_toInt32, Int32.toBitVec_toInt8]
  rw [Int32.toBitVec_and, BitVec.toNat_and, h]
  have e : ((x.toBitVec.signExtend 8).signExtend 32).toNat % 256 = x.toBitVec.toNat % 256 := by
    rw [BitVec.toNat_signExtend]
    have hlt := x.toBitVec.isLt
    simp only [BitVec.toNat_setWidth, BitVec.toNat_signExtend]
    split <;> split <;> omega
  rw [← e]
  exact Nat.and_two_pow_sub_one_eq_mod _ 8
theorem pair_says {c : Int32} (h0 : ¬ c < 0) (h1 : ¬ 65535 < c) : pairCh (lo8 c) (hi8 c) = c := by
  rw [Int32.lt_iff_toInt_lt] at h0 h1
  have e0 : (0 : Int32).toInt = 0 := rfl
  have e1 : (65535 : Int32).toInt = 65535 := rfl
  have hc : c.toInt = c.toBitVec.toNat := by
    have := c.toBitVec.isLt
    have e : c.toInt = c.toBitVec.toInt := rfl
    rw [e] at h0 h1
    rw [e]
    rw [BitVec.toInt_eq_toNat_cond] at h0 h1 ⊢
    split at h0 <;> split <;> omega
  have hn : c.toBitVec.toNat < 65536 := by omega
  have a1 := lo8_and c
  have a2 : (hi8 c &&& 255).toBitVec.toNat = c.toBitVec.toNat / 256 := by
    rw [hi8, lo8_and]
    have e : ((8 : Int32) &&& 31) = 8 := by decide
    rw [e, Int32.toBitVec_shiftRight]
    have e2 : ((8 : Int32).toBitVec.smod 32) = 8#32 := by decide
    rw [e2, BitVec.sshiftRight_eq', BitVec.toNat_sshiftRight_of_msb_false (by rw [BitVec.msb_eq_false_iff_two_mul_lt]; omega)]
    show c.toBitVec.toNat >>> 8 % 256 = _
    rw [Nat.shiftRight_eq_div_pow]
    omega
  unfold pairCh
  apply Int32.toBitVec_inj.mp
  apply BitVec.eq_of_toNat_eq
  have f0 : ((0 : Int32) &&& 31) = 0 := by decide
  have f8 : ((8 : Int32) &&& 31) = 8 := by decide
  rw [f0, f8]
  have g : (((lo8 c &&& 255) <<< (0 : Int32)) ||| ((hi8 c &&& 255) <<< (8 : Int32))).toBitVec.toNat = c.toBitVec.toNat := by
    rw [Int32.toBitVec_or, Int32.toBitVec_shiftLeft, Int32.toBitVec_shiftLeft]
    have s0 : ((0 : Int32).toBitVec.smod 32) = 0#32 := by decide
    have s8 : ((8 : Int32).toBitVec.smod 32) = 8#32 := by decide
    rw [s0, s8, BitVec.toNat_or]
    simp only [BitVec.shiftLeft_eq', BitVec.toNat_shiftLeft, a1, a2]
    show (c.toBitVec.toNat % 256) <<< 0 % 2 ^ 32 ||| (c.toBitVec.toNat / 256) <<< 8 % 2 ^ 32 = _
    rw [Nat.shiftLeft_zero, Nat.mod_eq_of_lt (show c.toBitVec.toNat % 256 < 2 ^ 32 by omega), Nat.mod_eq_of_lt (show (c.toBitVec.toNat / 256) <<< 8 < 2 ^ 32 by rw [Nat.shiftLeft_eq]; omega), Nat.or_comm, ← Nat.shiftLeft_add_eq_or_of_lt (by omega), Nat.shiftLeft_eq]
    omega
  show BitVec.toNat (((((lo8 c &&& 255) <<< (0 : Int32)) ||| ((hi8 c &&& 255) <<< (8 : Int32))).toBitVec.setWidth 16).setWidth 32) = _
  rw [BitVec.toNat_setWidth, BitVec.toNat_setWidth, g]
  omega
end StrChars
namespace StrChars
open Jvm Sem ClassFile Op Lib Jvm.Stand Jvm.Free.XT Jvm.Free.ALB Jvm.Free.JM Jvm.Free
open Jvm.Lib.Cold (StaticIs)
/-- the array's cell V codes the n chars f 0 .. f (n - 1) by the coder cd, as the JDK does: coder 1 just where some char is above 255 -/
def Cod (cd : Int32) (n : Nat) (f : Nat → Int32) (V : Cell) : Prop := (cd = 0 ∧ V.slots.size = n ∧ ∀ j, j < n → V.slots[j]? = some (.int (lo8 (f j))) ∧ ¬ 255 < f j) ∨ (cd = 1 ∧ V.slots.size = 2 * n ∧ (∀ j, j < n → V.slots[2 * j]? = some (.int (lo8 (f j))) ∧ V.slots[2 * j + 1]? = some (.int (hi8 (f j)))) ∧ ∃ j, j < n ∧ 255 < f j)
/-- **x is a String of the n chars f 0 .. f (n - 1)**, Latin-1 or UTF-16; its array at t has the cell V -/
def Txt (x t : Addr) (V : Cell) (cd : Int32) (n : Nat) (f : Nat → Int32) (U : State) : Prop := Exact "java/lang/String" x U ∧ Has x "java/lang/String" "value" "[B" (.ref t) U ∧ Has x "java/lang/String" "coder" "B" (.int cd) U ∧ XT.Arr .byte t V U ∧ Cod cd n f V ∧ ∀ j, j < n → ¬ f j < 0 ∧ ¬ 65535 < f j
theorem Txt.mv {x t : Addr} {V : Cell} {cd : Int32} {n : Nat} {f : Nat → Int32} {U U' : State} (h : Txt x t V cd n f U) (hal : U.vm.Alike U'.vm) (hh : U'.heap = U.heap) : Txt x t V cd n f U' := ⟨h.1.mv hal hh, h.2.1.mv hal hh, h.2.2.1.mv hal hh, h.2.2.2.1.mv hal hh, h.2.2.2.2⟩
end StrChars
namespace StrChars.Road
open Jvm Sem ClassFile Op Lib Jvm.Stand Jvm.Free Jvm.Free.XT
open Jvm.Lib.Cold (StaticIs)
theorem consq {a : Array Value} {s : State} {c : Jvm.Cond} {L : List Jvm.Cond} (h0 : c.before a s = true) (h : ∀ w ∈ L, w.before a s = true) : ∀ w ∈ c :: L, w.before a s = true := fun w hw => (List.mem_cons.mp hw).elim (fun e => e ▸ h0) (h w)
/-- the bytes of the chars cs, low before high -/
def wideBytes : List Int32 → List Value
  | [] => []
  | c :: cs => .int (lo8 c) :: .int (hi8 c) :: wideBytes cs
theorem wide_lo (d : Value) : ∀ (cs : List Int32) (j : Nat), j < cs.length → (wideBytes cs).getD (2 * j) d = .int (lo8 (cs.getD j 0))
  | [], j, h => absurd h (Nat.not_lt_zero j)
  | c :: cs, 0, _ => rfl
  | c :: cs, j + 1, h => by
    have q := wide_lo d cs j (by simpa using h)
    rw [show 2 * (j + 1) = 2 * j + 1 + 1 from by omega]
    simpa [wideBytes] using q
theorem wide_hi (d : Value) : ∀ (cs : List Int32) (j : Nat), j < cs.length → (wideBytes cs).getD (2 * j + 1) d = .int (hi8 (cs.getD j 0))
  | [], j, h => absurd h (Nat.not_lt_zero j)
  | c :: cs, 0, _ => rfl
  | c :: cs, j + 1, h => by
    have q := wide_hi d cs j (by simpa using h)
    rw [show 2 * (j + 1) + 1 = 2 * j + 1 + 1 + 1 from by omega]
    simpa [wideBytes] using q
theorem low_at (d : Value) (cs : List Int32) (j : Nat) (h : j < cs.length) : (cs.map fun c => Value.int (lo8 c)).getD j d = .int (lo8 (cs.getD j 0)) := by
  simp [List.getD_eq_getElem?_getD, h]
/-- an array of N2 bytes vs codes the chars cs by the coder cd -/
def CodA (cs : List Int32) (cd N2 : Int32) (vs : List Value) : Prop := (cd = 0 ∧ N2 = Int32.ofNat cs.length ∧ vs = (cs.map fun c => Value.int (lo8 c)) ∧ ∀ c ∈ cs, ¬ 255 < c) ∨ (cd = 1 ∧ N2 = Int32.ofNat (2 * cs.length) ∧ vs = wideBytes cs ∧ ∃ c ∈ cs, 255 < c)
theorem CodA.cod {cs : List Int32} {cd N2 : Int32} {vs : List Value} {V : Cell} (h : CodA cs cd N2 vs) (hn : 2 * cs.length < 2 ^ 31) (hs : V.slots.size = N2.toNatClampNeg) (hv : RoadKit.Has V vs (.int 0)) : Cod cd cs.length (fun j => cs.getD j 0) V := by
  rcases h with ⟨rfl, rfl, rfl, h⟩ | ⟨rfl, rfl, rfl, c, hc, hw⟩
  · rw [n32 (by omega)] at hs
    exact Or.inl ⟨rfl, hs, fun j hj => ⟨by rw [hv j (by omega), low_at _ _ _ hj], by
      have e : cs.getD j 0 = cs[j] := by simp [List.getD_eq_getElem?_getD, hj]
      show ¬ 255 < cs.getD j 0
      rw [e]; exact h _ (List.getElem_mem _)⟩⟩
  · rw [n32 (by omega)] at hs
    obtain ⟨j, hj, rfl⟩ := List.getElem_of_mem hc
    exact Or.inr ⟨rfl, hs, fun j hj => ⟨by rw [hv _ (by omega), wide_lo _ _ _ hj], by rw [hv _ (by omega), wide_hi _ _ _ hj]⟩, j, hj, by
      have e : cs.getD j 0 = cs[j] := by simp [List.getD_eq_getElem?_getD, hj]
      show 255 < cs.getD j 0
      rw [e]; exact hw⟩
/-- an object of exactly java/lang/String, its two fields found: as the laws ask it -/
theorem strObj {Z U : State} {a0 : Array Value} {kI : Nat} (wi : (Jvm.Cond.instantiable ST kI).before a0 Z = true) (al : Z.vm.Alike U.vm) {x : Addr} {v0 c0 : Value} (E : RoadKit.Exa Z U.heap x ST) (V : RoadKit.Fld Z U.heap x ST "value" "[B" v0) (C : RoadKit.Fld Z U.heap x ST "coder" "B" c0) :
    ∃ (D : Cell) (fV fC : Field), Blank ST x D U ∧ Found ST "value" "[B" fV U ∧ Found ST "coder" "B" fC U ∧ D.slots[fV.slot]? = some v0 ∧ D.slots[fC.slot]? = some c0 ∧ RoadKit.slotOf Z ST "value" "[B" = fV.slot ∧ RoadKit.slotOf Z ST "coder" "B" = fC.slot := by
  obtain ⟨D, cfV, kV, iV, fV, hD, gV, stV, knV, obV, asV, slV⟩ := V
  obtain ⟨D', cfC, kC, iC, fC, hD', gC, stC, -, -, asC, slC⟩ := C
  cases hD.symm.trans hD'
  obtain ⟨D2, kD, e1, e2, e3, e4, e5⟩ := E
  cases hD.symm.trans e1
  obtain ⟨c2, k2, i1, i2, i3, -⟩ := Cond.instantiable_spec wi
  cases e2.symm.trans i1
  cases e3.symm.trans i2
  obtain ⟨kU, u1, u2⟩ := al.2.2 _ _ e3
  exact ⟨D, fV, fC, ⟨hD, ⟨knV, fun q hq => by rw [hq] at obV; cases obV⟩, by rw [al.findClass]; exact e2, kU, u1, by rw [u2]; exact i3, by rw [u2]; exact e5 i3⟩, ⟨SBG.found_only al ⟨cfV, kV, iV, gV⟩, stV⟩, ⟨SBG.found_only al ⟨cfC, kC, iC, gC⟩, stC⟩, slV, slC, by simp [RoadKit.slotOf, gV], by simp [RoadKit.slotOf, gC]⟩
theorem sta_is {Z U : State} (al : Z.vm.Alike U.vm) {C n d : String} {v : Value} (S : RoadKit.Sta Z U.heap C n d v) : StaticIs U C n d v := by
  obtain ⟨cfS, iS, kS, fS, st, cS, t1, t2, t3, t4, t5, t6, t7⟩ := S
  exact StaticIs.there (s := { Z with heap := U.heap }) ⟨cfS, iS, kS, fS, st, cS, t1, t2, t3, t4, t5, (fun q => by rw [q] at t6; cases t6), t7⟩ al rfl
end StrChars.Road
namespace StrChars
open Jvm Sem ClassFile Op Lib Jvm.Stand Jvm.Free.XT Jvm.Free.ALB Jvm.Free.JM Jvm.Free
open Jvm.Lib.Cold (StaticIs)
/-- what place i of a byte[]'s cell holds -/
def yv (A : Cell) (i : Nat) : Int32 := match A.slots[i]? with | some (.int x) => x | _ => 0
theorem yv_get {a : Addr} {A : Cell} {U : State} (h : XT.Arr .byte a A U) (ht : Typed .byte A) {i : Nat} (hi : i < A.slots.size) : A.slots[i]? = some (.int (yv A i)) := by
  have e := Array.getElem?_eq_getElem hi
  have f := ht i _ e
  unfold yv; rw [e]
  generalize A.slots[i] = v at f
  cases v <;> simp [fits] at f ⊢
/-- the two arrays are equal, place for place -/
def EqC (A B : Cell) : Prop := A.slots.size = B.slots.size ∧ ∀ i, i < A.slots.size → yv A i = yv B i
/-- a boolean that says whether p -/
def Says01 (q : Prop) (r : Option Value) (s u : State) : Prop := ∃ v : Int32, r = some (.int v) ∧ u.heap = s.heap ∧ ((v = 1 ∧ q) ∨ (v = 0 ∧ ¬ q))
theorem Says01.mv {q : Prop} : ∀ r (U U' V V' : State), U'.heap = U.heap → V.vm.Alike V'.vm → V'.heap = V.heap → Says01 q r U V → Says01 q r U' V' :=
  fun r U U' V V' h1 _ h2 ⟨v, a, b, c⟩ => ⟨v, a, by rw [h1, h2]; exact b, c⟩
namespace LEq
def yN : MethodName := ⟨"java/lang/StringLatin1", "equals", "([B[B)Z"⟩
abbrev yB : ByteArray := jdk_43_method_13_code
theorem d0 : decode yB 0 = .ok (.aload_n 0, 1) := by decide +kernel
theorem d1 : decode yB 1 = .ok (.arraylength, 1) := by decide +kernel
theorem d2 : decode yB 2 = .ok (.aload_n 1, 1) := by decide +kernel
theorem d3 : decode yB 3 = .ok (.arraylength, 1) := by decide +kernel
theorem d4 : decode yB 4 = .ok (.if_icmp (.ne) 30, 3) := by decide +kernel
theorem d7 : decode yB 7 = .ok (.iconst 0, 1) := by decide +kernel
theorem d8 : decode yB 8 = .ok (.istore_n 2, 1) := by decide +kernel
theorem d9 : decode yB 9 = .ok (.iload_n 2, 1) := by decide +kernel
theorem d10 : decode yB 10 = .ok (.aload_n 0, 1) := by decide +kernel
theorem d11 : decode yB 11 = .ok (.arraylength, 1) := by decide +kernel
theorem d12 : decode yB 12 = .ok (.if_icmp (.ge) 20, 3) := by decide +kernel
theorem d15 : decode yB 15 = .ok (.aload_n 0, 1) := by decide +kernel
theorem d16 : decode yB 16 = .ok (.iload_n 2, 1) := by decide +kernel
theorem d17 : decode yB 17 = .ok (.baload, 1) := by decide +kernel
theorem d18 : decode yB 18 = .ok (.aload_n 1, 1) := by decide +kernel
theorem d19 : decode yB 19 = .ok (.iload_n 2, 1) := by decide +kernel
theorem d20 : decode yB 20 = .ok (.baload, 1) := by decide +kernel
theorem d21 : decode yB 21 = .ok (.if_icmp (.eq) 5, 3) := by decide +kernel
theorem d24 : decode yB 24 = .ok (.iconst 0, 1) := by decide +kernel
theorem d25 : decode yB 25 = .ok (.ireturn, 1) := by decide +kernel
theorem d26 : decode yB 26 = .ok (.iinc 2 1, 3) := by decide +kernel
theorem d29 : decode yB 29 = .ok (.goto (-20), 3) := by decide +kernel
theorem d32 : decode yB 32 = .ok (.iconst 1, 1) := by decide +kernel
theorem d33 : decode yB 33 = .ok (.ireturn, 1) := by decide +kernel
theorem d34 : decode yB 34 = .ok (.iconst 0, 1) := by decide +kernel
theorem d35 : decode yB 35 = .ok (.ireturn, 1) := by decide +kernel
def site : List Cond := []
def tab : Cond := tabOf yN yB 3 (some .boolean) site
def P (a : Addr) (A : Cell) (b : Addr) (B : Cell) (args : Array Value) (s : State) : Prop := args = #[.ref a, .ref b] ∧ XT.Arr .byte a A s ∧ Typed .byte A ∧ XT.Arr .byte b B s ∧ Typed .byte B
/-- whether two byte[] are equal, place for place -/
theorem law (l : Launch) (a : Addr) (A : Cell) (b : Addr) (B : Cell) : Law l yN 2 2 0 0 yB 3 (some .boolean) site (P a A b B) (Says01 (EqC A B)) [] 0 0 := by
  refine Law.of_walk (plainFor_of_name (by decide +kernel)) (by decide +kernel) (by decide +kernel) (by decide) (fun _ _ h => by rw [h.1]; rfl) (fun _ U U' hal hh h => ⟨h.1, h.2.1.mv hal hh, h.2.2.1, h.2.2.2.1.mv hal hh, h.2.2.2.2⟩) (fun r U U' V V' h1 hal h2 h => Says01.mv r U U' V V' h1 hal h2 h) ?_
  intro p e s m args below meth c s₁ X0 hexec hbytes hml hret hlk hnm hown hh0 W hP
  obtain ⟨rfl, hA, tA, hB, tB⟩ := hP
  have a31 := hA.2.2.2
  have b31 := hB.2.2.2
  have hA0 := hA.mv X0.warmed.alike hh0
  have hB0 := hB.mv X0.warmed.alike hh0
  have c1 : Steps p.tables e below (s₁.setTop (entryFrame m #[.ref a, .ref b] 3)) (s₁.setTop (mkF m 0 #[.val (.ref a), .val (.ref b), .unset] [])) := entry rfl
  have c2 : Steps p.tables e below (s₁.setTop (entryFrame m #[.ref a, .ref b] 3)) (s₁.setTop (mkF m 4 #[.val (.ref a), .val (.ref b), .unset] [.int (Int32.ofNat B.slots.size), .int (Int32.ofNat A.slots.size)])) := c1.trans (by
    refine XS.aloadN X0.here hexec rfl (hb hbytes d0) rfl rfl ?_
    refine X0.alen hexec hA0 rfl rfl (hb hbytes d1) ?_
    refine XS.aloadN X0.here hexec rfl (hb hbytes d2) rfl rfl ?_
    refine X0.alen hexec hB0 rfl rfl (hb hbytes d3) ?_
    exact Steps.refl _)
  by_cases hs : A.slots.size = B.slots.size
  · have c3 : Steps p.tables e below (s₁.setTop (entryFrame m #[.ref a, .ref b] 3)) (s₁.setTop (mkF m 9 #[.val (.ref a), .val (.ref b), .val (.int 0)] [])) := c2.trans (by
      refine XS.icmpNo X0.here hexec rfl (hb hbytes d4) rfl (ii_ne_f (by rw [hs])) ?_
      refine iconstV X0.here hexec rfl 0 (hb hbytes d7) (by decide) ?_
      refine XS.istoreN X0.here hexec rfl (hb hbytes d8) rfl rfl ?_
      exact Steps.refl _)
    have loop : ∀ (r i : Nat), i + r = A.slots.size → (∀ j, j < i → yv A j = yv B j) → Steps p.tables e below (s₁.setTop (entryFrame m #[.ref a, .ref b] 3)) (s₁.setTop (mkF m 9 #[.val (.ref a), .val (.ref b), .val (.int (Int32.ofNat i))] [])) → ∃ (pc : Nat) (Ls : Array Slot) (v : Int32), (pc = 25 ∨ pc = 33) ∧ ((v = 1 ∧ EqC A B) ∨ (v = 0 ∧ ¬ EqC A B)) ∧ Steps p.tables e below (s₁.setTop (entryFrame m #[.ref a, .ref b] 3)) (s₁.setTop (mkF m pc Ls [.int v])) := by
      intro r
      induction r with
      | zero =>
        intro i hi he cl
        exact ⟨33, _, 1, Or.inr rfl, Or.inl ⟨rfl, hs, fun j hj => he j (by omega)⟩, cl.trans (by
          refine XS.iloadN X0.here hexec rfl (hb hbytes d9) rfl ?_
          refine XS.aloadN X0.here hexec rfl (hb hbytes d10) rfl rfl ?_
          refine X0.alen hexec hA0 rfl rfl (hb hbytes d11) ?_
          refine XS.icmpYes X0.here hexec rfl (pc0 := 12) rfl (hb hbytes d12) rfl (ii_ge_t (nlt32 (by omega) (by omega))) (by decide) rfl ?_
          refine iconstV X0.here hexec rfl 1 (hb hbytes d32) (by decide) ?_
          exact Steps.refl _)⟩
      | succ r ih =>
        intro i hi he cl
        have c4 : Steps p.tables e below (s₁.setTop (entryFrame m #[.ref a, .ref b] 3)) (s₁.setTop (mkF m 21 #[.val (.ref a), .val (.ref b), .val (.int (Int32.ofNat i))] [.int (yv B i), .int (yv A i)])) := cl.trans (by
          refine XS.iloadN X0.here hexec rfl (hb hbytes d9) rfl ?_
          refine XS.aloadN X0.here hexec rfl (hb hbytes d10) rfl rfl ?_
          refine X0.alen hexec hA0 rfl rfl (hb hbytes d11) ?_
          refine XS.icmpNo X0.here hexec rfl (hb hbytes d12) rfl (ii_ge_f (lt32 (by omega) (by omega))) ?_
          refine XS.aloadN X0.here hexec rfl (hb hbytes d15) rfl rfl ?_
          refine XS.iloadN X0.here hexec rfl (hb hbytes d16) rfl ?_
          refine X0.aget hexec hA0 rfl (yv_get hA tA (i := i) (by omega)) rfl rfl (hb hbytes d17) ?_
          refine XS.aloadN X0.here hexec rfl (hb hbytes d18) rfl rfl ?_
          refine XS.iloadN X0.here hexec rfl (hb hbytes d19) rfl ?_
          refine X0.aget hexec hB0 rfl (yv_get hB tB (i := i) (by omega)) rfl rfl (hb hbytes d20) ?_
          exact Steps.refl _)
        by_cases hv : yv A i = yv B i
        · have c5 : Steps p.tables e below (s₁.setTop (entryFrame m #[.ref a, .ref b] 3)) (s₁.setTop (mkF m 9 #[.val (.ref a), .val (.ref b), .val (.int (Int32.ofNat i + 1))] [])) := c4.trans (by
            refine XS.icmpYes X0.here hexec rfl (pc0 := 21) rfl (hb hbytes d21) rfl (ii_eq_t hv) (by decide) rfl ?_
            refine iincV X0.here hexec rfl 1 (hb hbytes d26) (by decide) rfl rfl ?_
            refine XS.goto X0.here hexec rfl (pc0 := 29) rfl (hb hbytes d29) (by decide) rfl ?_
            exact Steps.refl _)
          rw [succ32] at c5
          exact ih (i + 1) (by omega) (fun j hj => by
            by_cases e : j = i
            · rw [e]; exact hv
            · exact he j (by omega)) c5
        · exact ⟨25, _, 0, Or.inl rfl, Or.inr ⟨rfl, fun q => hv (q.2 i (by omega))⟩, c4.trans (by
            refine XS.icmpNo X0.here hexec rfl (hb hbytes d21) rfl (ii_eq_f hv) ?_
            refine iconstV X0.here hexec rfl 0 (hb hbytes d24) (by decide) ?_
            exact Steps.refl _)⟩
    obtain ⟨pc, Ls, v, hpc, hv, cz⟩ := loop A.slots.size 0 (by omega) (fun j hj => absurd hj (Nat.not_lt_zero j)) c3
    have nv : narrow .boolean (.int v) = .int v := by rcases hv with ⟨rfl, -⟩ | ⟨rfl, -⟩ <;> rfl
    rcases hpc with rfl | rfl
    · exact ⟨s₁, some (.int v), _, _, _, X0, rfl, rfl, rfl, (fun h => by cases h), ⟨v, rfl, hh0, hv⟩, fun fs hl => cz.trans (X0.ireturnOut hexec hret nv (Or.inr (Or.inl rfl)) (hb hbytes d25) hl)⟩
    · exact ⟨s₁, some (.int v), _, _, _, X0, rfl, rfl, rfl, (fun h => by cases h), ⟨v, rfl, hh0, hv⟩, fun fs hl => cz.trans (X0.ireturnOut hexec hret nv (Or.inr (Or.inl rfl)) (hb hbytes d33) hl)⟩
  · have c3 : Steps p.tables e below (s₁.setTop (entryFrame m #[.ref a, .ref b] 3)) (s₁.setTop (mkF m 35 #[.val (.ref a), .val (.ref b), .unset] [.int 0])) := c2.trans (by
      refine XS.icmpYes X0.here hexec rfl (pc0 := 4) rfl (hb hbytes d4) rfl (ii_ne_t (ne32 a31 b31 hs)) (by decide) rfl ?_
      refine iconstV X0.here hexec rfl 0 (hb hbytes d34) (by decide) ?_
      exact Steps.refl _)
    exact ⟨s₁, some (.int 0), _, _, _, X0, rfl, rfl, rfl, (fun h => by cases h), ⟨0, rfl, hh0, Or.inr ⟨rfl, fun q => hs q.1⟩⟩, fun fs hl => c3.trans (X0.ireturnOut hexec hret rfl (Or.inr (Or.inl rfl)) (hb hbytes d35) hl)⟩
end LEq
theorem Cod.ty {cd : Int32} {n : Nat} {f : Nat → Int32} {V : Cell} (h : Cod cd n f V) : Typed .byte V := fun i v hv => by
  have hi : i < V.slots.size := (Array.getElem?_eq_some_iff.mp hv).1
  rcases h with ⟨-, k1, k2⟩ | ⟨-, k1, k2, -⟩
  · rw [(k2 i (by omega)).1] at hv; cases hv; exact fits_lo8 _
  · rcases Nat.mod_two_eq_zero_or_one i with e | e
    · obtain ⟨j, rfl⟩ : ∃ j, i = 2 * j := ⟨i / 2, by omega⟩
      rw [(k2 j (by omega)).1] at hv; cases hv; exact fits_lo8 _
    · obtain ⟨j, rfl⟩ : ∃ j, i = 2 * j + 1 := ⟨i / 2, by omega⟩
      rw [(k2 j (by omega)).2] at hv; cases hv; exact fits_lo8 _
/-- the same text -/
def SameT (n : Nat) (f : Nat → Int32) (k : Nat) (g : Nat → Int32) : Prop := n = k ∧ ∀ j, j < n → f j = g j
theorem lo8_inj {x y : Int32} (h0 : ¬ x < 0) (h1 : ¬ 255 < x) (k0 : ¬ y < 0) (k1 : ¬ 255 < y) (h : lo8 x = lo8 y) : x = y := by
  rw [← lo8_mask h0 h1, ← lo8_mask k0 k1, h]
/-- arrays coded by one coder are equal just where the texts are -/
theorem Cod.eqv {cd : Int32} {n k : Nat} {f g : Nat → Int32} {V V' : Cell} (h : Cod cd n f V) (h' : Cod cd k g V') (hf : ∀ j, j < n → ¬ f j < 0 ∧ ¬ 65535 < f j) (hg : ∀ j, j < k → ¬ g j < 0 ∧ ¬ 65535 < g j) : EqC V V' ↔ SameT n f k g := by
  have yvv : ∀ {W : Cell} {i : Nat} {x : Int32}, W.slots[i]? = some (.int x) → yv W i = x := fun q => by unfold yv; rw [q]
  rcases h with ⟨rfl, k1, k2⟩ | ⟨rfl, k1, k2, -⟩
  · rcases h' with ⟨-, m1, m2⟩ | ⟨e, -⟩
    · constructor
      · rintro ⟨e1, e2⟩
        refine ⟨by omega, fun j hj => ?_⟩
        have q := e2 j (by omega)
        rw [yvv (k2 j hj).1, yvv (m2 j (by omega)).1] at q
        exact lo8_inj (hf j hj).1 (k2 j hj).2 (hg j (by omega)).1 (m2 j (by omega)).2 q
      · rintro ⟨rfl, e2⟩
        refine ⟨by omega, fun j hj => ?_⟩
        rw [yvv (k2 j (by omega)).1, yvv (m2 j (by omega)).1, e2 j (by omega)]
    · exact absurd e (by decide)
  · rcases h' with ⟨e, -⟩ | ⟨-, m1, m2, -⟩
    · exact absurd e (by decide)
    · constructor
      · rintro ⟨e1, e2⟩
        refine ⟨by omega, fun j hj => ?_⟩
        have q1 := e2 (2 * j) (by omega)
        have q2 := e2 (2 * j + 1) (by omega)
        rw [yvv (k2 j hj).1, yvv (m2 j (by omega)).1] at q1
        rw [yvv (k2 j hj).2, yvv (m2 j (by omega)).2] at q2
        rw [← pair_says (hf j hj).1 (hf j hj).2, ← pair_says (hg j (by omega)).1 (hg j (by omega)).2, q1, q2]
      · rintro ⟨rfl, e2⟩
        refine ⟨by omega, fun i hi => ?_⟩
        rcases Nat.mod_two_eq_zero_or_one i with e | e
        · obtain ⟨j, rfl⟩ : ∃ j, i = 2 * j := ⟨i / 2, by omega⟩
          rw [yvv (k2 j (by omega)).1, yvv (m2 j (by omega)).1, e2 j (by omega)]
        · obtain ⟨j, rfl⟩ : ∃ j, i = 2 * j + 1 := ⟨i / 2, by omega⟩
          rw [yvv (k2 j (by omega)).2, yvv (m2 j (by omega)).2, e2 j (by omega)]
/-- two codings differ: so do the texts -/
theorem Cod.dif {cd cd' : Int32} {n k : Nat} {f g : Nat → Int32} {V V' : Cell} (h : Cod cd n f V) (h' : Cod cd' k g V') (hne : ¬ cd = cd') : ¬ SameT n f k g := by
  rintro ⟨rfl, e⟩
  rcases h with ⟨rfl, -, k2⟩ | ⟨rfl, -, -, j, hj, hw⟩
  · rcases h' with ⟨rfl, -⟩ | ⟨-, -, -, j, hj, hw⟩
    · exact hne rfl
    · exact (k2 j hj).2 (by rw [e j hj]; exact hw)
  · rcases h' with ⟨-, -, m2⟩ | ⟨rfl, -⟩
    · exact (m2 j hj).2 (by rw [← e j hj]; exact hw)
    · exact hne rfl
/-- an object of exactly C is an instance of C -/
theorem cinst {p : Program} {l : Launch} {e : Env} {R : Room} {s : State} {m : MethodId} {args : Array Value} {below : List Frame} {meth : Method} {c : Code} {T : State} {locs : List Loc} {cells slots : Nat} (X : Stand p l e R s m args below meth c T locs cells slots) (hexec : p.tables.exec = Jvm.exec) {own C : String} {index : Nat} (hown : s.vm.findClass own = some m.cls) (hlink : (Cond.classLink own index C).before args s = true) {a : Addr} (hE : Exact C a T)
    {g : JFrame} (hg : g.method = m) {rest : List Value} (hstack : g.stack = .ref a :: rest) (hdg : decode c.code g.pc = .ok (.instanceof index, 3)) :
    ∃ T', Stand p l e R s m args below meth c T' locs cells slots ∧ T'.heap = T.heap ∧ ∀ target, Steps p.tables e below (T'.setTop { g with pc := g.pc + 3, stack := .int 1 :: rest }) target → Steps p.tables e below (T.setTop g) target := by
  obtain ⟨cB, h1, D, h2, h3, h4⟩ := hE
  have h1' : s.vm.findClass C = some cB := by rw [← X.warmed.alike.findClass]; exact h1
  obtain ⟨vm', X', st⟩ := X.instanceofYes hexec hown hlink h2 h4 h1' (by rw [h3]; exact Jvm.Free.SB.assignable_self _ _) hg hstack hdg
  exact ⟨_, X', rfl, st⟩
theorem cself {p : Program} {l : Launch} {e : Env} {R : Room} {s : State} {m : MethodId} {args : Array Value} {below : List Frame} {meth : Method} {c : Code} {T : State} {locs : List Loc} {cells slots : Nat} (X : Stand p l e R s m args below meth c T locs cells slots) (hexec : p.tables.exec = Jvm.exec) {own C : String} {index : Nat} (hown : s.vm.findClass own = some m.cls) (hlink : (Cond.classLink own index C).before args s = true) {a : Addr} (hE : Exact C a T)
    {g : JFrame} (hg : g.method = m) {rest : List Value} (hstack : g.stack = .ref a :: rest) (hdg : decode c.code g.pc = .ok (.checkcast index, 3)) :
    ∃ T', Stand p l e R s m args below meth c T' locs cells slots ∧ T'.heap = T.heap ∧ ∀ target, Steps p.tables e below (T'.setTop { g with pc := g.pc + 3, stack := .ref a :: rest }) target → Steps p.tables e below (T.setTop g) target := by
  obtain ⟨cB, h1, D, h2, h3, h4⟩ := hE
  have h1' : s.vm.findClass C = some cB := by rw [← X.warmed.alike.findClass]; exact h1
  obtain ⟨vm', X', st⟩ := X.checkcastYes hexec hown hlink h2 h4 h1' (by rw [h3]; exact Jvm.Free.SB.assignable_self _ _) hg hstack hdg
  exact ⟨_, X', rfl, fun t h => st t (by rw [← hstack] at h; exact h)⟩
namespace SEq
def yN : MethodName := ⟨"java/lang/String", "equals", "(Ljava/lang/Object;)Z"⟩
abbrev yB : ByteArray := jdk_42_method_66_code
theorem d0 : decode yB 0 = .ok (.aload_n 0, 1) := by decide +kernel
theorem d1 : decode yB 1 = .ok (.aload_n 1, 1) := by decide +kernel
theorem d2 : decode yB 2 = .ok (.if_acmp (.ne) 5, 3) := by decide +kernel
theorem d5 : decode yB 5 = .ok (.iconst 1, 1) := by decide +kernel
theorem d6 : decode yB 6 = .ok (.ireturn, 1) := by decide +kernel
theorem d7 : decode yB 7 = .ok (.aload_n 1, 1) := by decide +kernel
theorem d8 : decode yB 8 = .ok (.instanceof 10, 3) := by decide +kernel
theorem d11 : decode yB 11 = .ok (.ifCond (.eq) 43, 3) := by decide +kernel
theorem d14 : decode yB 14 = .ok (.aload_n 1, 1) := by decide +kernel
theorem d15 : decode yB 15 = .ok (.checkcast 10, 3) := by decide +kernel
theorem d18 : decode yB 18 = .ok (.astore_n 2, 1) := by decide +kernel
theorem d19 : decode yB 19 = .ok (.getstatic 38, 3) := by decide +kernel
theorem d22 : decode yB 22 = .ok (.ifCond (.eq) 14, 3) := by decide +kernel
theorem d25 : decode yB 25 = .ok (.aload_n 0, 1) := by decide +kernel
theorem d26 : decode yB 26 = .ok (.getfield 15, 3) := by decide +kernel
theorem d29 : decode yB 29 = .ok (.aload_n 2, 1) := by decide +kernel
theorem d30 : decode yB 30 = .ok (.getfield 15, 3) := by decide +kernel
theorem d33 : decode yB 33 = .ok (.if_icmp (.ne) 21, 3) := by decide +kernel
theorem d36 : decode yB 36 = .ok (.aload_n 0, 1) := by decide +kernel
theorem d37 : decode yB 37 = .ok (.getfield 9, 3) := by decide +kernel
theorem d40 : decode yB 40 = .ok (.aload_n 2, 1) := by decide +kernel
theorem d41 : decode yB 41 = .ok (.getfield 9, 3) := by decide +kernel
theorem d44 : decode yB 44 = .ok (.invokestatic 541, 3) := by decide +kernel
theorem d47 : decode yB 47 = .ok (.ifCond (.eq) 7, 3) := by decide +kernel
theorem d50 : decode yB 50 = .ok (.iconst 1, 1) := by decide +kernel
theorem d51 : decode yB 51 = .ok (.goto 4, 3) := by decide +kernel
theorem d54 : decode yB 54 = .ok (.iconst 0, 1) := by decide +kernel
theorem d55 : decode yB 55 = .ok (.ireturn, 1) := by decide +kernel
def site : List Cond := [.classLink "java/lang/String" 10 "java/lang/String", .fieldLink "java/lang/String" 38 "java/lang/String" "COMPACT_STRINGS" "Z", .fieldLink "java/lang/String" 15 "java/lang/String" "coder" "B", .fieldLink "java/lang/String" 9 "java/lang/String" "value" "[B", LEq.tab] ++ staticW "java/lang/String" 541 LEq.yN
def tab : Cond := tabOf yN yB 3 (some .boolean) site
def P (x t : Addr) (V : Cell) (cd : Int32) (n : Nat) (f : Nat → Int32) (y t' : Addr) (V' : Cell) (cd' : Int32) (k : Nat) (g : Nat → Int32) (z : Int32) (args : Array Value) (s : State) : Prop := args = #[.ref x, .ref y] ∧ Txt x t V cd n f s ∧ Txt y t' V' cd' k g s ∧ StaticIs s "java/lang/String" "COMPACT_STRINGS" "Z" (.int z) ∧ ¬ z = 0
/-- equals(Object) of two Strings: whether the texts are the same -/
theorem law (l : Launch) (x t : Addr) (V : Cell) (cd : Int32) (n : Nat) (f : Nat → Int32) (y t' : Addr) (V' : Cell) (cd' : Int32) (k : Nat) (g : Nat → Int32) (z : Int32) : Law l yN 2 1 1 14 yB 3 (some .boolean) site (P x t V cd n f y t' V' cd' k g z) (Says01 (SameT n f k g)) [] 0 0 := by
  refine Law.of_walk (plainFor_of_name (by decide +kernel)) (by decide +kernel) (by decide +kernel) (by decide) (fun _ _ h => by rw [h.1]; rfl) (fun _ U U' hal hh h => ⟨h.1, h.2.1.mv hal hh, h.2.2.1.mv hal hh, h.2.2.2.1.there hal hh, h.2.2.2.2⟩) (fun r U U' V V' h1 hal h2 h => Says01.mv r U U' V V' h1 hal h2 h) ?_
  intro p e s m args below meth c s₁ X0 hexec hbytes hml hret hlk hnm hown hh0 W hP
  obtain ⟨rfl, hx, hy, s1, hz⟩ := hP
  have c1 : Steps p.tables e below (s₁.setTop (entryFrame m #[.ref x, .ref y] 3)) (s₁.setTop (mkF m 2 #[.val (.ref x), .val (.ref y), .unset] [.ref y, .ref x])) := Steps.trans (entry rfl) (by
    show Steps p.tables e below (s₁.setTop (mkF m 0 #[.val (.ref x), .val (.ref y), .unset] [])) _
    refine XS.aloadN X0.here hexec rfl (hb hbytes d0) rfl rfl ?_
    refine XS.aloadN X0.here hexec rfl (hb hbytes d1) rfl rfl ?_
    exact Steps.refl _)
  by_cases hxy : x = y
  · have c2 : Steps p.tables e below (s₁.setTop (entryFrame m #[.ref x, .ref y] 3)) (s₁.setTop (mkF m 6 #[.val (.ref x), .val (.ref y), .unset] [.int 1])) := c1.trans (by
      refine acmpNo X0.here hexec rfl (hb hbytes d2) rfl rfl rfl (by simp [acmp, hxy]) ?_
      refine iconstV X0.here hexec rfl 1 (hb hbytes d5) (by decide) ?_
      exact Steps.refl _)
    subst hxy
    have ec : cd = cd' := by
      obtain ⟨D, fd, a1, a2, a3⟩ := hx.2.2.1
      obtain ⟨D', fd', b1, b2, b3⟩ := hy.2.2.1
      cases a1.symm.trans b1
      obtain ⟨q1, q2, q3, q4⟩ := a2.1
      obtain ⟨r1, r2, r3, r4⟩ := b2.1
      cases q4.symm.trans r4
      cases a3.symm.trans b3; rfl
    have et : t = t' := by
      obtain ⟨D, fd, a1, a2, a3⟩ := hx.2.1
      obtain ⟨D', fd', b1, b2, b3⟩ := hy.2.1
      cases a1.symm.trans b1
      obtain ⟨q1, q2, q3, q4⟩ := a2.1
      obtain ⟨r1, r2, r3, r4⟩ := b2.1
      cases q4.symm.trans r4
      cases a3.symm.trans b3; rfl
    subst ec et
    have ev : V = V' := by cases hx.2.2.2.1.1.symm.trans hy.2.2.2.1.1; rfl
    subst ev
    have hs : SameT n f k g := (Cod.eqv hx.2.2.2.2.1 hy.2.2.2.2.1 hx.2.2.2.2.2 hy.2.2.2.2.2).mp ⟨rfl, fun _ _ => rfl⟩
    exact ⟨s₁, some (.int 1), _, _, _, X0, rfl, rfl, rfl, (fun h => by cases h), ⟨1, rfl, hh0, Or.inl ⟨rfl, hs⟩⟩, fun fs hl => c2.trans (X0.ireturnOut hexec hret rfl (Or.inr (Or.inl rfl)) (hb hbytes d6) hl)⟩
  · have c2 : Steps p.tables e below (s₁.setTop (entryFrame m #[.ref x, .ref y] 3)) (s₁.setTop (mkF m 8 #[.val (.ref x), .val (.ref y), .unset] [.ref y])) := c1.trans (by
      refine acmpYes X0.here hexec rfl (pc0 := 2) rfl (hb hbytes d2) rfl rfl rfl (by simp [acmp, hxy]) (by decide) rfl ?_
      refine XS.aloadN X0.here hexec rfl (hb hbytes d7) rfl rfl ?_
      exact Steps.refl _)
    obtain ⟨T3, X3, q3, st3⟩ := cinst X0 hexec hown (wk W (.classLink "java/lang/String" 10 "java/lang/String")) (hy.mv X0.warmed.alike hh0).1 (g := (mkF m 8 #[.val (.ref x), .val (.ref y), .unset] [.ref y])) rfl (rest := []) rfl (hb hbytes d8)
    have hh3 := q3.trans hh0
    have c4 : Steps p.tables e below (s₁.setTop (entryFrame m #[.ref x, .ref y] 3)) (T3.setTop (mkF m 15 #[.val (.ref x), .val (.ref y), .unset] [.ref y])) := (c2.trans (st3 _ (Steps.refl _))).trans (by
      refine XS.ifNo X3.here hexec rfl (hb hbytes d11) rfl (i0_eq_f (by decide)) ?_
      refine XS.aloadN X3.here hexec rfl (hb hbytes d14) rfl rfl ?_
      exact Steps.refl _)
    obtain ⟨T5, X5, q5, st5⟩ := cself X3 hexec hown (wk W (.classLink "java/lang/String" 10 "java/lang/String")) (hy.mv X3.warmed.alike hh3).1 (g := (mkF m 15 #[.val (.ref x), .val (.ref y), .unset] [.ref y])) rfl (rest := []) rfl (hb hbytes d15)
    have hh5 := q5.trans hh3
    have c6 : Steps p.tables e below (s₁.setTop (entryFrame m #[.ref x, .ref y] 3)) (T5.setTop (mkF m 19 #[.val (.ref x), .val (.ref y), .val (.ref y)] [])) := (c4.trans (st5 _ (Steps.refl _))).trans (by
      refine XS.astoreN X5.here hexec rfl (hb hbytes d18) rfl rfl rfl ?_
      exact Steps.refl _)
    obtain ⟨T7, X7, q7, st7⟩ := X5.sget hexec hown (wk W (.fieldLink "java/lang/String" 38 "java/lang/String" "COMPACT_STRINGS" "Z")) s1 (fun _ _ h => by rw [hh5]; exact h) (g := (mkF m 19 #[.val (.ref x), .val (.ref y), .val (.ref y)] [])) rfl (hb hbytes d19)
    have hh7 := q7.trans hh5
    have c8 : Steps p.tables e below (s₁.setTop (entryFrame m #[.ref x, .ref y] 3)) (T7.setTop (mkF m 26 #[.val (.ref x), .val (.ref y), .val (.ref y)] [.ref x])) := (c6.trans (st7 _ (Steps.refl _))).trans (by
      refine XS.ifNo X7.here hexec rfl (hb hbytes d22) rfl (i0_eq_f hz) ?_
      refine XS.aloadN X7.here hexec rfl (hb hbytes d25) rfl rfl ?_
      exact Steps.refl _)
    obtain ⟨T9, X9, q9, st9⟩ := X7.hget hexec hown (wk W (.fieldLink "java/lang/String" 15 "java/lang/String" "coder" "B")) (hx.mv X7.warmed.alike hh7).2.2.1 (g := (mkF m 26 #[.val (.ref x), .val (.ref y), .val (.ref y)] [.ref x])) rfl (rest := []) rfl (hb hbytes d26)
    have hh9 := q9.trans hh7
    have c10 : Steps p.tables e below (s₁.setTop (entryFrame m #[.ref x, .ref y] 3)) (T9.setTop (mkF m 30 #[.val (.ref x), .val (.ref y), .val (.ref y)] [.ref y, .int cd])) := (c8.trans (st9 _ (Steps.refl _))).trans (by
      refine XS.aloadN X9.here hexec rfl (hb hbytes d29) rfl rfl ?_
      exact Steps.refl _)
    obtain ⟨T11, X11, q11, st11⟩ := X9.hget hexec hown (wk W (.fieldLink "java/lang/String" 15 "java/lang/String" "coder" "B")) (hy.mv X9.warmed.alike hh9).2.2.1 (g := (mkF m 30 #[.val (.ref x), .val (.ref y), .val (.ref y)] [.ref y, .int cd])) rfl (rest := [.int cd]) rfl (hb hbytes d30)
    have hh11 := q11.trans hh9
    have c12 : Steps p.tables e below (s₁.setTop (entryFrame m #[.ref x, .ref y] 3)) (T11.setTop (mkF m 33 #[.val (.ref x), .val (.ref y), .val (.ref y)] [.int cd', .int cd])) := c10.trans (st11 _ (Steps.refl _))
    by_cases hcd : cd = cd'
    · subst hcd
      have c13 : Steps p.tables e below (s₁.setTop (entryFrame m #[.ref x, .ref y] 3)) (T11.setTop (mkF m 37 #[.val (.ref x), .val (.ref y), .val (.ref y)] [.ref x])) := c12.trans (by
        refine XS.icmpNo X11.here hexec rfl (hb hbytes d33) rfl (ii_ne_f rfl) ?_
        refine XS.aloadN X11.here hexec rfl (hb hbytes d36) rfl rfl ?_
        exact Steps.refl _)
      obtain ⟨T14, X14, q14, st14⟩ := X11.hget hexec hown (wk W (.fieldLink "java/lang/String" 9 "java/lang/String" "value" "[B")) (hx.mv X11.warmed.alike hh11).2.1 (g := (mkF m 37 #[.val (.ref x), .val (.ref y), .val (.ref y)] [.ref x])) rfl (rest := []) rfl (hb hbytes d37)
      have hh14 := q14.trans hh11
      have c15 : Steps p.tables e below (s₁.setTop (entryFrame m #[.ref x, .ref y] 3)) (T14.setTop (mkF m 41 #[.val (.ref x), .val (.ref y), .val (.ref y)] [.ref y, .ref t])) := (c13.trans (st14 _ (Steps.refl _))).trans (by
        refine XS.aloadN X14.here hexec rfl (hb hbytes d40) rfl rfl ?_
        exact Steps.refl _)
      obtain ⟨T16, X16, q16, st16⟩ := X14.hget hexec hown (wk W (.fieldLink "java/lang/String" 9 "java/lang/String" "value" "[B")) (hy.mv X14.warmed.alike hh14).2.1 (g := (mkF m 41 #[.val (.ref x), .val (.ref y), .val (.ref y)] [.ref y, .ref t])) rfl (rest := [.ref t]) rfl (hb hbytes d41)
      have hh16 := q16.trans hh14
      have c17 : Steps p.tables e below (s₁.setTop (entryFrame m #[.ref x, .ref y] 3)) (T16.setTop (mkF m 44 #[.val (.ref x), .val (.ref y), .val (.ref y)] [.ref t', .ref t])) := c15.trans (st16 _ (Steps.refl _))
      obtain ⟨v18, T18, X18, E18, g18⟩ := X16.callS hexec (LEq.law l t V t' V') hown (wks W (staticW "java/lang/String" 541 LEq.yN)) (wk W LEq.tab) (W := 0) (Nat.le_of_ble_eq_true rfl) (Nat.le_of_ble_eq_true rfl) (Nat.le_refl _) (Nat.le_refl _) (g := (mkF m 44 #[.val (.ref x), .val (.ref y), .val (.ref y)] [.ref t', .ref t])) rfl (by rw [hml]; rfl) c17 (argsL := [.ref t, .ref t']) (rest := []) rfl rfl (by show 2 * 0 + 0 ≤ _; decide) (hb hbytes d44) (⟨rfl, hx.2.2.2.1.mv X16.warmed.alike hh16, hx.2.2.2.2.1.ty, hy.2.2.2.1.mv X16.warmed.alike hh16, hy.2.2.2.2.1.ty⟩)
      obtain ⟨v, rfl, q18, hv⟩ := E18
      have iff := Cod.eqv hx.2.2.2.2.1 hy.2.2.2.2.1 hx.2.2.2.2.2 hy.2.2.2.2.2
      rcases hv with ⟨rfl, he⟩ | ⟨rfl, he⟩
      · have c19 : Steps p.tables e below (s₁.setTop (entryFrame m #[.ref x, .ref y] 3)) (T18.setTop (mkF m 55 #[.val (.ref x), .val (.ref y), .val (.ref y)] [.int 1])) := Steps.trans g18 (by
          refine XS.ifNo X18.here hexec rfl (hb hbytes d47) rfl (i0_eq_f (by decide)) ?_
          refine iconstV X18.here hexec rfl 1 (hb hbytes d50) (by decide) ?_
          refine XS.goto X18.here hexec rfl (pc0 := 51) rfl (hb hbytes d51) (by decide) rfl ?_
          exact Steps.refl _)
        exact ⟨T18, some (.int 1), _, _, _, X18, rfl, rfl, rfl, (fun h => by cases h), ⟨1, rfl, q18.trans hh16, Or.inl ⟨rfl, iff.mp he⟩⟩, fun fs hl => c19.trans (X18.ireturnOut hexec hret rfl (Or.inr (Or.inl rfl)) (hb hbytes d55) hl)⟩
      · have c19 : Steps p.tables e below (s₁.setTop (entryFrame m #[.ref x, .ref y] 3)) (T18.setTop (mkF m 55 #[.val (.ref x), .val (.ref y), .val (.ref y)] [.int 0])) := Steps.trans g18 (by
          refine XS.ifYes X18.here hexec rfl (pc0 := 47) rfl (hb hbytes d47) rfl (i0_eq_t rfl) (by decide) rfl ?_
          refine iconstV X18.here hexec rfl 0 (hb hbytes d54) (by decide) ?_
          exact Steps.refl _)
        exact ⟨T18, some (.int 0), _, _, _, X18, rfl, rfl, rfl, (fun h => by cases h), ⟨0, rfl, q18.trans hh16, Or.inr ⟨rfl, fun q => he (iff.mpr q)⟩⟩, fun fs hl => c19.trans (X18.ireturnOut hexec hret rfl (Or.inr (Or.inl rfl)) (hb hbytes d55) hl)⟩
    · have c13 : Steps p.tables e below (s₁.setTop (entryFrame m #[.ref x, .ref y] 3)) (T11.setTop (mkF m 55 #[.val (.ref x), .val (.ref y), .val (.ref y)] [.int 0])) := c12.trans (by
        refine XS.icmpYes X11.here hexec rfl (pc0 := 33) rfl (hb hbytes d33) rfl (ii_ne_t hcd) (by decide) rfl ?_
        refine iconstV X11.here hexec rfl 0 (hb hbytes d54) (by decide) ?_
        exact Steps.refl _)
      exact ⟨T11, some (.int 0), _, _, _, X11, rfl, rfl, rfl, (fun h => by cases h), ⟨0, rfl, hh11, Or.inr ⟨rfl, Cod.dif hx.2.2.2.2.1 hy.2.2.2.2.1 hcd⟩⟩, fun fs hl => c13.trans (X11.ireturnOut hexec hret rfl (Or.inr (Or.inl rfl)) (hb hbytes d55) hl)⟩
theorem pays {l : Launch} {R : Room} {p : Program} {e : Env} {below : List Frame} {s : State} {sargs : Array Value} {len W : Nat} (x t : Addr) (V : Cell) (cd : Int32) (n : Nat) (f : Nat → Int32) (y t' : Addr) (V' : Cell) (cd' : Int32) (k : Nat) (g : Nat → Int32) (z : Int32) (htab : tab.before sargs s = true) (hfr : 2 ≤ R.frames) (hlo : W + 28 ≤ R.locals) :
    Back l R p e below s sargs yN len W (fun A₁ a₁ => A₁.cells + 0 ≤ R.cells ∧ A₁.slots + 0 ≤ R.slots ∧ P x t V cd n f y t' V' cd' k g z a₁ A₁.U) (fun A₁ _ v₁ B₁ => Says01 (SameT n f k g) v₁ A₁.U B₁.U ∧ B₁.locs = A₁.locs ++ [] ∧ B₁.cells = A₁.cells + 0 ∧ B₁.slots = A₁.slots + 0) :=
  (law l x t V cd n f y t' V' cd' k g z).pays htab hfr (by omega)
end SEq
end StrChars
namespace StrChars.Road
open Jvm Sem ClassFile Op Lib Jvm.Stand Jvm.Free Jvm.Free.XT
open Jvm.Lib.Cold (StaticIs)
/-- the words of String.equals(Object) -/
abbrev wordsEq : List Jvm.Cond := [.code SEq.yN SEq.yB 3 (some .boolean), .initialized ST, .classLink ST 10 ST, .fieldLink ST 38 ST "COMPACT_STRINGS" "Z", .fieldLink ST 15 ST "coder" "B", .fieldLink ST 9 ST "value" "[B", .methodLink ST 541 LEq.yN, .static LEq.yN, .code LEq.yN LEq.yB 3 (some .boolean), .initialized "java/lang/StringLatin1"]
theorem tabEq_of {a : Array Value} {s : State} (h : ∀ w ∈ wordsEq, w.before a s = true) : SEq.tab.before a s = true := by
  have hl : LEq.tab.before a s = true := unparts (wk h (.code LEq.yN LEq.yB 3 (some .boolean))) (wks h (.initialized LEq.yN.cls :: LEq.site))
  have q := consq hl h
  exact unparts (wk q (.code SEq.yN SEq.yB 3 (some .boolean))) (wks q (.initialized SEq.yN.cls :: SEq.site))
theorem movedEq {Z s : State} {a0 args : Array Value} (hZ : Z.Warmed39 s.vm) (hw : ∀ d ∈ wordsEq, d.before a0 Z = true) : ∀ d ∈ wordsEq, d.before args s = true := fun d hd => by
  have t : ∀ d ∈ wordsEq, (d.onTables && d.keepsFace) = true := by decide +kernel
  exact RoadKit.mv hZ (hw d hd) (t d hd)
/-- the road's facts of a String, as the laws ask it -/
theorem txt_of {Z U : State} {a0 : Array Value} {kI : Nat} (wi : (Jvm.Cond.instantiable ST kI).before a0 Z = true) (al : Z.vm.Alike U.vm) {x t : Addr} {kb : ClassId} {cs : List Int32} {cd N2 : Int32} {vs : List Value} (E : RoadKit.Exa Z U.heap x ST) (V : RoadKit.Fld Z U.heap x ST "value" "[B" (.ref t)) (C : RoadKit.Fld Z U.heap x ST "coder" "B" (.int cd)) (K : RoadKit.Arv Z U.heap t kb .byte N2 vs (.int 0)) (hc : CodA cs cd N2 vs) (hb : ∀ c ∈ cs, ¬ c < 0 ∧ ¬ (65535 : Int32) < c) (l2 : cs.length ≤ 4000) :
    ∃ A, Txt x t A cd cs.length (fun j => cs.getD j 0) U := by
  obtain ⟨A, K1, K2, K3, K4, K5, K6⟩ := K
  have hcod := hc.cod (by omega) K3 K5
  obtain ⟨D, fV, fC, hB, F1, F2, g1, g2, -, -⟩ := strObj wi al E V C
  exact ⟨A, ⟨_, hB.2.2.1, D, hB.1, rfl, by cases q : D.vm <;> first | rfl | exact absurd q (hB.2.1.2 _)⟩, Has.of hB F1 g1, Has.of hB F2 g2, ⟨K1.1, State.isArrayOf_alike al K1.2.1, K1.2.2, by rcases hcod with ⟨-, q, -⟩ | ⟨-, q, -⟩ <;> omega⟩, hcod, fun j hj => by
    have e : cs.getD j 0 = cs[j] := by simp [List.getD_eq_getElem?_getD, hj]
    show ¬ cs.getD j 0 < 0 ∧ ¬ 65535 < cs.getD j 0
    rw [e]; exact hb _ (List.getElem_mem _)⟩
theorem same_list (cs ds : List Int32) : SameT cs.length (fun j => cs.getD j 0) ds.length (fun j => ds.getD j 0) ↔ cs = ds := by
  constructor
  · rintro ⟨e, q⟩
    refine List.ext_getElem e fun j h1 h2 => ?_
    have := q j h1
    simpa [List.getD_eq_getElem?_getD, h1, h2] using this
  · rintro rfl
    exact ⟨rfl, fun _ _ => rfl⟩
/-- **equals(Object) OF TWO SUCH STRINGS**: 1 just where the chars are the same -/
theorem eqW {p : Program} {l : Launch} {e : Env} {R : Room} {s : State} {args : Array Value} {below : List Frame} {len W : Nat} {Z : State} {a0 : Array Value} {h : Heap} (hZ : Z.Warmed39 s.vm) (hw : ∀ d ∈ wordsEq, d.before a0 Z = true) {kI : Nat} (wi : (Jvm.Cond.instantiable ST kI).before a0 Z = true)
    {x t : Addr} {kb : ClassId} {cs : List Int32} {cd N2 : Int32} {vs : List Value} (E : RoadKit.Exa Z h x ST) (V : RoadKit.Fld Z h x ST "value" "[B" (.ref t)) (C : RoadKit.Fld Z h x ST "coder" "B" (.int cd)) (K : RoadKit.Arv Z h t kb .byte N2 vs (.int 0)) (hc : CodA cs cd N2 vs) (hb : ∀ c ∈ cs, ¬ c < 0 ∧ ¬ (65535 : Int32) < c) (l2 : cs.length ≤ 4000)
    {y t' : Addr} {kb' : ClassId} {ds : List Int32} {cd' N2' : Int32} {vs' : List Value} (E' : RoadKit.Exa Z h y ST) (V' : RoadKit.Fld Z h y ST "value" "[B" (.ref t')) (C' : RoadKit.Fld Z h y ST "coder" "B" (.int cd')) (K' : RoadKit.Arv Z h t' kb' .byte N2' vs' (.int 0)) (hc' : CodA ds cd' N2' vs') (hb' : ∀ c ∈ ds, ¬ c < 0 ∧ ¬ (65535 : Int32) < c) (l2' : ds.length ≤ 4000)
    {z : Int32} (S : RoadKit.Sta Z h ST "COMPACT_STRINGS" "Z" (.int z)) (hz : ¬ z = 0) (hfr : 2 ≤ R.frames) (hlo : W + 28 ≤ R.locals) :
    Back l R p e below s args (⟨"java/lang/String", "equals", "(Ljava/lang/Object;)Z"⟩ : MethodName) len W (fun P a => a = #[.ref x, .ref y] ∧ P.U.heap = h ∧ P.cells + 0 ≤ R.cells ∧ P.slots + 0 ≤ R.slots)
      (fun P _ v B => ∃ L, (((v = some (.int 1) ∧ cs = ds) ∨ (v = some (.int 0) ∧ ¬ cs = ds)) ∧ L = [] ∧ B.U.heap = h) ∧ B.locs = P.locs ++ L ∧ B.cells = P.cells + 0 ∧ B.slots = P.slots + 0) := by
  intro m meth c P g ig mk a X hg hsize hdg hW hn hp'
  obtain ⟨rfl, rfl, r1, r2⟩ := hp'
  have al : Z.vm.Alike P.U.vm := hZ.alike.trans X.warmed.alike
  obtain ⟨A, hx⟩ := txt_of wi al E V C K hc hb l2
  obtain ⟨A', hy⟩ := txt_of wi al E' V' C' K' hc' hb' l2'
  obtain ⟨v, B, X', ⟨⟨w, hv, hh, hq⟩, hl, hk, hs⟩, st⟩ := SEq.pays x t A cd cs.length (fun j => cs.getD j 0) y t' A' cd' ds.length (fun j => ds.getD j 0) z (tabEq_of (movedEq hZ hw)) hfr hlo m meth c P g ig mk _ X hg hsize hdg hW hn ⟨r1, r2, rfl, hx, hy, sta_is al S, hz⟩
  refine ⟨v, B, X', ⟨[], ⟨?_, rfl, hh⟩, hl, hk, hs⟩, st⟩
  rcases hq with ⟨rfl, q⟩ | ⟨rfl, q⟩
  · exact Or.inl ⟨hv, (same_list cs ds).mp q⟩
  · exact Or.inr ⟨hv, fun e => q ((same_list cs ds).mpr e)⟩
end StrChars.Road
namespace StrChars.Road
open Jvm Sem ClassFile Op Lib Jvm.Stand Jvm.Free Jvm.Free.XT
open Jvm.Lib.Cold (StaticIs)
/-- what backV says of its String, as the contracts of this text ask it: cs's low bytes, coder 0 -/
theorem codOf {cs : List Int32} {n : Nat} (hn : cs.length = n) (hb : ∀ c ∈ cs, ¬ 255 < c) : CodA cs 0 (Int32.ofNat n) ((cs.map lo8).map Value.int) := Or.inl ⟨rfl, by rw [hn], by simp [List.map_map, Function.comp_def], hb⟩
end StrChars.Road
end Jvm.Pilot.@@N@@
namespace Jvm.RoadKit
open Sem ClassFile Op Lib Jvm.Stand Jvm.Free Jvm.LawKit
section New
variable {p : Program} {l : Launch} {e : Env} {R : Room} {s : State} {m : MethodId} {args : Array Value} {below : List Frame} {meth : Method} {c : Code} {T : State} {locs : List Loc} {cells slots : Nat}
theorem retI (X : Stand p l e R s m args below meth c T locs cells slots) (hx : p.tables.exec = Jvm.exec) {pc : Nat} {Ls : Array Slot} {z : Int32} {rest : List Value} (hret : meth.sig.returnType = some .int) (hd : decode c.code pc = .ok (.ireturn, 1)) {fs : List Frame}
    (hl : ∀ (f : JFrame) (acts : List Action), f.method = m → f.locked = none → f.entered = [] → (doReturn e (T.setTop f) acts (some (.int z))).1 = T.setFrames fs) : Steps p.tables e below (T.setTop (mkF m pc Ls (.int z :: rest))) (T.setFrames fs) := by
  have hm' : T.vm.method? m = some meth := X.method'
  have hn : narrow .int (.int z) = .int z := rfl
  show Steps p.tables e below (T.setTop { method := m, pc := pc, locals := Ls, stack := _ :: rest, locked := none }) _
  jvm_step X.here [X.here.top, hx, hd, hm', hret, hn]
  first | (intro acts; rw [hl _ acts rfl rfl rfl]) | rw [hl _ _ rfl rfl rfl]
  exact Steps.refl _
end New
end Jvm.RoadKit
namespace Jvm.Pilot.@@N@@
open Jvm Jvm.ClassFile Sem Op Lib Jvm.Free Jvm.Stand Jvm.LawKit Jvm.RoadKit Bundle Jvm.Pilot.@@N@@.Jvm.D
theorem pn_0 : plainName "com/example/vertumnus/vertumnus/TableNameEqualsPinLaw" = true := by first | (simp [plainName, overriddenIn]; done) | decide +kernel
theorem pn_1 : plainName "java/lang/String" = true := by first | (simp [plainName, overriddenIn]; done) | decide +kernel
theorem pd_0 : parseMethodDescriptor "([CIILjava/lang/Void;)V" = some ⟨[(.array .char), .int, .int, (.object "java/lang/Void")], none⟩ := by decide +kernel
theorem pd_1 : parseMethodDescriptor "(I)I" = some ⟨[.int], some .int⟩ := by decide +kernel
theorem pd_2 : parseMethodDescriptor "([C)V" = some ⟨[(.array .char)], none⟩ := by decide +kernel
theorem pd_3 : parseMethodDescriptor "(II)I" = some ⟨[.int, .int], some .int⟩ := by decide +kernel
theorem pn_2 : plainName "java/util/Objects" = true := by first | (simp [plainName, overriddenIn]; done) | decide +kernel
theorem pn_3 : plainName "com/example/vertumnus/vertumnus/TableName" = true := by first | (simp [plainName, overriddenIn]; done) | decide +kernel
theorem pd_4 : parseMethodDescriptor "(Ljava/lang/Object;Ljava/lang/String;)Ljava/lang/Object;" = some ⟨[(.object "java/lang/Object"), (.object "java/lang/String")], some (.object "java/lang/Object")⟩ := by decide +kernel
theorem pd_5 : parseMethodDescriptor "(Ljava/lang/Object;)Z" = some ⟨[(.object "java/lang/Object")], some .boolean⟩ := by decide +kernel
theorem pd_6 : parseMethodDescriptor "(I)Ljava/lang/String;" = some ⟨[.int], some (.object "java/lang/String")⟩ := by decide +kernel
theorem pd_7 : parseMethodDescriptor "(Ljava/lang/String;Ljava/lang/String;)V" = some ⟨[(.object "java/lang/String"), (.object "java/lang/String")], none⟩ := by decide +kernel
theorem pd_8 : parseMethodDescriptor "(II)Z" = some ⟨[.int, .int], some .boolean⟩ := by decide +kernel
theorem own_neArv {Z : State} {h : Heap} {a b : Addr} {C : String} {a0 : Array Value} {k : Nat} {kd : ClassId} {ty : FieldType} {n : Int32} {vs : List Value} {d : Value} (F : Exa Z h a C) (wi : (Cond.instantiable C k).before a0 Z = true) (G : Arv Z h b kd ty n vs d) : a ≠ b := by
  obtain ⟨c, A, -⟩ := G
  exact ne_arr F wi A
theorem own_stak {Z : State} {h h' : Heap} {C n d : String} {v : Value} {ws : List Addr} (F : Sta Z h C n d v) (K : Keep h h' ws) (q : ∀ x ∈ ws, ∀ cell : Cell, h[x]? = some cell → cell.vm.isStatics = false) : Sta Z h' C n d v := by
  obtain ⟨cf, i, k, f, st, cell, h1, h2, h3, h4, h5, h6, h7⟩ := F
  exact ⟨cf, i, k, f, st, cell, h1, h2, h3, h4, K.2.1 st cell h5 (fun z => by have r := q st z cell h5; rw [h6] at r; cases r), h6, h7⟩


theorem own_of (n : Nat) (h : n ≤ 4000) : (Int32.ofNat n).toInt = n := by
  have q : (Int32.ofNat n).toInt = (n : Int).bmod (2 ^ 32) := by simp [Int32.toInt_ofNat']
  rw [q, Int.bmod_def]; omega
theorem own_ix {ln : Int32} {cs : List Int32} {i : Nat} (hl : ln = Int32.ofNat cs.length ∧ cs.length ≤ 4000) (hi : i < cs.length) : ¬ Int32.ofNat i < (0 : Int32) ∧ Int32.ofNat i < ln := by
  have e1 := own_of i (by omega); have e2 := own_of cs.length hl.2
  rw [hl.1]
  constructor
  · rw [Int32.lt_iff_toInt_lt, e1, Int32.toInt_zero]; omega
  · rw [Int32.lt_iff_toInt_lt, e1, e2]; omega
theorem own_cl {n : Nat} (h : n ≤ 4000) : (Int32.ofNat n).toNatClampNeg = n := by
  show (Int32.ofNat n).toInt.toNat = n
  rw [own_of n h]; omega
theorem own_bat {ln : Int32} {cs : List Int32} {i : Nat} (hl : ln = Int32.ofNat cs.length ∧ cs.length ≤ 4000) (hi : i < cs.length) : ((cs.map fun c => c.toInt8.toInt32).map Value.int).getD (Int32.ofNat i).toNatClampNeg (.int (0 : Int32)) = .int (cs.getD i 0).toInt8.toInt32 := by
  rw [own_cl (by omega)]
  simp [List.getD_eq_getElem?_getD, hi]
theorem own_byte : ∀ k : Fin 256, nar .char ((((Int32.ofNat k.val).toInt8.toInt32) &&& (255 : Int32)).toUInt32.toUInt16.toUInt32.toInt32) = Int32.ofNat k.val ∧ nar .char (Int32.ofNat k.val) = Int32.ofNat k.val := by decide +kernel
theorem own_lat {c : Int32} (h : ¬ c < 0 ∧ ¬ (255 : Int32) < c) : ∃ k : Fin 256, c = Int32.ofNat k.val := by
  have e : (255 : Int32).toInt = 255 := by decide
  rw [Int32.lt_iff_toInt_lt, Int32.lt_iff_toInt_lt, e, Int32.toInt_zero] at h
  refine ⟨⟨c.toInt.toNat, by omega⟩, Int32.toInt_inj.mp ?_⟩
  rw [own_of _ (show c.toInt.toNat ≤ 4000 by omega)]; omega
theorem own_get {cs : List Int32} {i : Nat} (hcs : ∀ c ∈ cs, ¬ c < 0 ∧ ¬ (255 : Int32) < c) (hi : i < cs.length) : ∃ k : Fin 256, cs.getD i 0 = Int32.ofNat k.val := by
  apply own_lat; apply hcs
  rw [List.getD_eq_getElem?_getD, List.getElem?_eq_getElem hi]; exact List.getElem_mem hi
theorem own_b2c {cs : List Int32} {i : Nat} (hcs : ∀ c ∈ cs, ¬ c < 0 ∧ ¬ (255 : Int32) < c) (hi : i < cs.length) : nar .char ((((cs.getD i 0).toInt8.toInt32) &&& (255 : Int32)).toUInt32.toUInt16.toUInt32.toInt32) = cs.getD i 0 := by
  obtain ⟨k, e⟩ := own_get hcs hi; rw [e]; exact (own_byte k).1
theorem own_charnar {cs : List Int32} {i : Nat} (hcs : ∀ c ∈ cs, ¬ c < 0 ∧ ¬ (255 : Int32) < c) (hi : i < cs.length) : nar .char (cs.getD i 0) = cs.getD i 0 := by
  obtain ⟨k, e⟩ := own_get hcs hi; rw [e]; exact (own_byte k).2

theorem d2_0 : decode method_2_code 0 = .ok (.iload_n 0, 1) := by decide +kernel
theorem d2_1 : decode method_2_code 1 = .ok (.iconst 3, 1) := by decide +kernel
theorem d2_2 : decode method_2_code 2 = .ok (.iand, 1) := by decide +kernel
theorem d2_3 : decode method_2_code 3 = .ok (.ireturn, 1) := by decide +kernel
def own_f2 (p1 : Int32) : Int32 := (p1 &&& (3 : Int32))
def Q2 (p1 : Int32) (h0 : Heap) (n0 : Nat) (v : Option Value) (h : Heap) (L : List Loc) : Prop := v = some (.int (own_f2 p1)) ∧ Fr n0 L ∧ h = h0
theorem ef_2 (m : MethodId) (x0 : Int32) : entryFrame m #[(.int x0)] 1 = mkF m 0 #[.val (.int x0)] [] := by first | (simp [entryFrame, mkF, argsToLocals, Value.category]; done) | rfl
set_option maxRecDepth 65536 in
set_option maxHeartbeats 40000000 in
theorem rm2 (l : Launch) (Z : State) (a0 : Array Value) (hw : ∀ d ∈ tables_1, d.before a0 Z = true) (ws : List Jvm.Cond) (p1 : Int32) (h0 : Heap) (n0 : Nat) :
    MetFree l (⟨"com/example/vertumnus/vertumnus/TableNameEqualsPinLaw", "len", "(I)I"⟩ : MethodName) (head1 (Jvm.Cond.code (⟨"com/example/vertumnus/vertumnus/TableNameEqualsPinLaw", "len", "(I)I"⟩ : MethodName) method_2_code 1 (some .int) :: ws) ({ frames := 0, cells := 0, slots := 0, locals := 0 } : Room)) (fun a U => a = #[(.int p1)] ∧ Z.Warmed39 U.vm ∧ U.heap = h0) (fun _ _ _ _ _ => True) (fun _ U o U' => ∃ v L, o = .returned v ∧ Q2 p1 h0 n0 v U'.heap L ∧ FrameEnd U o U' L ({ frames := 0, cells := 0, slots := 0, locals := 0 } : Room).cells ({ frames := 0, cells := 0, slots := 0, locals := 0 } : Room).slots) := by
  refine MetFree.of_bodySF (plainFor_of_name pn_0) hisR ?_
  intro p e s m args below meth c s₁ Bd hml0 hP hK
  obtain ⟨rfl, hZ, hh⟩ := hP
  have hx := Bd.exec
  have hby := Bd.bytes
  have hml : c.maxLocals = 1 := hml0
  have hown : s.vm.findClass "com/example/vertumnus/vertumnus/TableNameEqualsPinLaw" = some m.cls := findClass_of_methodNamed Bd.named
  have hnm := (name_of_methodNamed Bd.named Bd.method).1
  have X0 : Stand p l e ({ frames := 0, cells := 0, slots := 0, locals := 0 } : Room) s m #[(.int p1)] below meth c s₁ [] 0 0 := Stand.of_body Bd
  have e0 : s₁.heap = h0 := by rw [← hh, Bd.state]; rfl
  have N0 := Fr.nil n0
  have pre0 : ∀ t, Steps p.tables e below (s₁.setTop (mkF m 0 #[.val (.int p1)] [])) t → Steps p.tables e below (s₁.setTop (entryFrame m #[(.int p1)] 1)) t := fun t k => castTop (ef_2 m p1) k
  obtain ⟨fs, hr, hrun, hended, hW, hsame⟩ := X0.leave (v := some (.int (own_f2 p1))) (fun h => by rw [Bd.returns] at h; cases h)
  refine ⟨_, _, pre0 _ ?_, hrun, hended, _, _, rfl, ?_, ⟨_, rfl⟩, hW, hsame.mono (by decide) (by decide)⟩
  · skip
    have J0 : ∀ (hv : own_f2 p1 = own_f2 p1 ), Steps p.tables e below (s₁.setTop (mkF m 0 #[.val (.int p1)] [])) (s₁.setFrames fs) := by
      intro hv
      show Steps p.tables e below (s₁.setTop (mkF m 0 #[.val (.int p1)] [])) _
      refine XS.iloadN X0.here hx rfl (hb hby d2_0) rfl ?_
      show Steps p.tables e below (s₁.setTop (mkF m 1 #[.val (.int p1)] [(.int p1)])) _
      refine XS.iconst X0.here hx rfl (hb hby d2_1) ?_
      show Steps p.tables e below (s₁.setTop (mkF m 2 #[.val (.int p1)] [(.int (3 : Int32)), (.int p1)])) _
      refine XS.iand X0.here hx rfl (hb hby d2_2) rfl ?_
      show Steps p.tables e below (s₁.setTop (mkF m 3 #[.val (.int p1)] [(.int (p1 &&& (3 : Int32)))])) _
      rw [hv] at hr
      exact retI X0 hx Bd.returns (hb hby d2_3) hr
    exact J0 rfl
  · show Q2 p1 h0 n0 _ s₁.heap _
    rw [e0]
    exact ⟨rfl, N0, rfl⟩
theorem d6_0 : decode method_3_code 0 = .ok (.iload_n 0, 1) := by decide +kernel
theorem d6_1 : decode method_3_code 1 = .ok (.iconst 2, 1) := by decide +kernel
theorem d6_2 : decode method_3_code 2 = .ok (.bipush 8, 2) := by decide +kernel
theorem d6_4 : decode method_3_code 4 = .ok (.iload_n 1, 1) := by decide +kernel
theorem d6_5 : decode method_3_code 5 = .ok (.imul, 1) := by decide +kernel
theorem d6_6 : decode method_3_code 6 = .ok (.iadd, 1) := by decide +kernel
theorem d6_7 : decode method_3_code 7 = .ok (.iushr, 1) := by decide +kernel
theorem d6_8 : decode method_3_code 8 = .ok (.sipush 255, 3) := by decide +kernel
theorem d6_11 : decode method_3_code 11 = .ok (.iand, 1) := by decide +kernel
theorem d6_12 : decode method_3_code 12 = .ok (.ireturn, 1) := by decide +kernel
def own_f6 (p1 : Int32) (p2 : Int32) : Int32 := (((p1.toUInt32 >>> (((2 : Int32) + ((8 : Int32) * p2)) &&& 31).toUInt32).toInt32) &&& (255 : Int32))
def Q6 (p1 : Int32) (p2 : Int32) (h0 : Heap) (n0 : Nat) (v : Option Value) (h : Heap) (L : List Loc) : Prop := v = some (.int (own_f6 p1 p2)) ∧ Fr n0 L ∧ h = h0
theorem ef_6 (m : MethodId) (x0 : Int32) (x1 : Int32) : entryFrame m #[(.int x0), (.int x1)] 2 = mkF m 0 #[.val (.int x0), .val (.int x1)] [] := by first | (simp [entryFrame, mkF, argsToLocals, Value.category]; done) | rfl
set_option maxRecDepth 65536 in
set_option maxHeartbeats 40000000 in
theorem rm6 (l : Launch) (Z : State) (a0 : Array Value) (hw : ∀ d ∈ tables_1, d.before a0 Z = true) (ws : List Jvm.Cond) (p1 : Int32) (p2 : Int32) (h0 : Heap) (n0 : Nat) :
    MetFree l (⟨"com/example/vertumnus/vertumnus/TableNameEqualsPinLaw", "ch", "(II)I"⟩ : MethodName) (head1 (Jvm.Cond.code (⟨"com/example/vertumnus/vertumnus/TableNameEqualsPinLaw", "ch", "(II)I"⟩ : MethodName) method_3_code 2 (some .int) :: ws) ({ frames := 0, cells := 0, slots := 0, locals := 0 } : Room)) (fun a U => a = #[(.int p1), (.int p2)] ∧ Z.Warmed39 U.vm ∧ U.heap = h0) (fun _ _ _ _ _ => True) (fun _ U o U' => ∃ v L, o = .returned v ∧ Q6 p1 p2 h0 n0 v U'.heap L ∧ FrameEnd U o U' L ({ frames := 0, cells := 0, slots := 0, locals := 0 } : Room).cells ({ frames := 0, cells := 0, slots := 0, locals := 0 } : Room).slots) := by
  refine MetFree.of_bodySF (plainFor_of_name pn_0) hisR ?_
  intro p e s m args below meth c s₁ Bd hml0 hP hK
  obtain ⟨rfl, hZ, hh⟩ := hP
  have hx := Bd.exec
  have hby := Bd.bytes
  have hml : c.maxLocals = 2 := hml0
  have hown : s.vm.findClass "com/example/vertumnus/vertumnus/TableNameEqualsPinLaw" = some m.cls := findClass_of_methodNamed Bd.named
  have hnm := (name_of_methodNamed Bd.named Bd.method).1
  have X0 : Stand p l e ({ frames := 0, cells := 0, slots := 0, locals := 0 } : Room) s m #[(.int p1), (.int p2)] below meth c s₁ [] 0 0 := Stand.of_body Bd
  have e0 : s₁.heap = h0 := by rw [← hh, Bd.state]; rfl
  have N0 := Fr.nil n0
  have pre0 : ∀ t, Steps p.tables e below (s₁.setTop (mkF m 0 #[.val (.int p1), .val (.int p2)] [])) t → Steps p.tables e below (s₁.setTop (entryFrame m #[(.int p1), (.int p2)] 2)) t := fun t k => castTop (ef_6 m p1 p2) k
  obtain ⟨fs, hr, hrun, hended, hW, hsame⟩ := X0.leave (v := some (.int (own_f6 p1 p2))) (fun h => by rw [Bd.returns] at h; cases h)
  refine ⟨_, _, pre0 _ ?_, hrun, hended, _, _, rfl, ?_, ⟨_, rfl⟩, hW, hsame.mono (by decide) (by decide)⟩
  · skip
    have J0 : ∀ (hv : own_f6 p1 p2 = own_f6 p1 p2 ), Steps p.tables e below (s₁.setTop (mkF m 0 #[.val (.int p1), .val (.int p2)] [])) (s₁.setFrames fs) := by
      intro hv
      show Steps p.tables e below (s₁.setTop (mkF m 0 #[.val (.int p1), .val (.int p2)] [])) _
      refine XS.iloadN X0.here hx rfl (hb hby d6_0) rfl ?_
      show Steps p.tables e below (s₁.setTop (mkF m 1 #[.val (.int p1), .val (.int p2)] [(.int p1)])) _
      refine XS.iconst X0.here hx rfl (hb hby d6_1) ?_
      show Steps p.tables e below (s₁.setTop (mkF m 2 #[.val (.int p1), .val (.int p2)] [(.int (2 : Int32)), (.int p1)])) _
      refine XS.bipush X0.here hx rfl (hb hby d6_2) ?_
      show Steps p.tables e below (s₁.setTop (mkF m 4 #[.val (.int p1), .val (.int p2)] [(.int (8 : Int32)), (.int (2 : Int32)), (.int p1)])) _
      refine XS.iloadN X0.here hx rfl (hb hby d6_4) rfl ?_
      show Steps p.tables e below (s₁.setTop (mkF m 5 #[.val (.int p1), .val (.int p2)] [(.int p2), (.int (8 : Int32)), (.int (2 : Int32)), (.int p1)])) _
      refine XS.imul X0.here hx rfl (hb hby d6_5) rfl ?_
      show Steps p.tables e below (s₁.setTop (mkF m 6 #[.val (.int p1), .val (.int p2)] [(.int ((8 : Int32) * p2)), (.int (2 : Int32)), (.int p1)])) _
      refine XS.iadd X0.here hx rfl (hb hby d6_6) rfl ?_
      show Steps p.tables e below (s₁.setTop (mkF m 7 #[.val (.int p1), .val (.int p2)] [(.int ((2 : Int32) + ((8 : Int32) * p2))), (.int p1)])) _
      refine XS.iushr X0.here hx rfl (hb hby d6_7) rfl ?_
      show Steps p.tables e below (s₁.setTop (mkF m 8 #[.val (.int p1), .val (.int p2)] [(.int ((p1.toUInt32 >>> (((2 : Int32) + ((8 : Int32) * p2)) &&& 31).toUInt32).toInt32))])) _
      refine XS.sipush X0.here hx rfl (hb hby d6_8) ?_
      show Steps p.tables e below (s₁.setTop (mkF m 11 #[.val (.int p1), .val (.int p2)] [(.int (255 : Int32)), (.int ((p1.toUInt32 >>> (((2 : Int32) + ((8 : Int32) * p2)) &&& 31).toUInt32).toInt32))])) _
      refine XS.iand X0.here hx rfl (hb hby d6_11) rfl ?_
      show Steps p.tables e below (s₁.setTop (mkF m 12 #[.val (.int p1), .val (.int p2)] [(.int (((p1.toUInt32 >>> (((2 : Int32) + ((8 : Int32) * p2)) &&& 31).toUInt32).toInt32) &&& (255 : Int32)))])) _
      rw [hv] at hr
      exact retI X0 hx Bd.returns (hb hby d6_12) hr
    exact J0 rfl
  · show Q6 p1 p2 h0 n0 _ s₁.heap _
    rw [e0]
    exact ⟨rfl, N0, rfl⟩
def own_t24 : String := match (tables_1[24]? : Option Jvm.Cond) with | some (Jvm.Cond.stringLink _ _ t) => t | _ => ""
def own_cs24 : List Int32 := own_t24.toList.map fun c => Int32.ofNat c.toNat
theorem own_ht24 : (∀ c ∈ own_t24.toList, c.toNat < 256) ∧ own_t24.toList.map (fun c => Value.int (Jvm.Lit.byteI c.toNat.toUInt16)) = (own_cs24.map fun c => c.toInt8.toInt32).map Value.int := ⟨by decide +kernel, by decide +kernel⟩
theorem own_len24 : own_cs24.length = 0 := by decide +kernel
theorem own_hbd24 : ∀ c ∈ own_cs24, ¬ c < 0 ∧ ¬ (65535 : Int32) < c := by decide +kernel
def own_t50 : String := match (tables_1[50]? : Option Jvm.Cond) with | some (Jvm.Cond.stringLink _ _ t) => t | _ => ""
def own_cs50 : List Int32 := own_t50.toList.map fun c => Int32.ofNat c.toNat
theorem own_ht50 : (∀ c ∈ own_t50.toList, c.toNat < 256) ∧ own_t50.toList.map (fun c => Value.int (Jvm.Lit.byteI c.toNat.toUInt16)) = (own_cs50.map fun c => c.toInt8.toInt32).map Value.int := ⟨by decide +kernel, by decide +kernel⟩
theorem own_len50 : own_cs50.length = 6 := by decide +kernel
theorem own_hbd50 : ∀ c ∈ own_cs50, ¬ c < 0 ∧ ¬ (65535 : Int32) < c := by decide +kernel
def own_t58 : String := match (tables_1[58]? : Option Jvm.Cond) with | some (Jvm.Cond.stringLink _ _ t) => t | _ => ""
def own_cs58 : List Int32 := own_t58.toList.map fun c => Int32.ofNat c.toNat
theorem own_ht58 : (∀ c ∈ own_t58.toList, c.toNat < 256) ∧ own_t58.toList.map (fun c => Value.int (Jvm.Lit.byteI c.toNat.toUInt16)) = (own_cs58.map fun c => c.toInt8.toInt32).map Value.int := ⟨by decide +kernel, by decide +kernel⟩
theorem own_len58 : own_cs58.length = 4 := by decide +kernel
theorem own_hbd58 : ∀ c ∈ own_cs58, ¬ c < 0 ∧ ¬ (65535 : Int32) < c := by decide +kernel
abbrev EL : List (String × Nat) := consts_1
theorem own_EW {Z : State} {a0 : Array Value} (hw : ∀ d ∈ tables_1, d.before a0 Z = true) : EW Z a0 EL := (EW.cons (hw _ (List.mem_of_getElem? (i := 50) rfl)) (by decide +kernel) (EW.cons (hw _ (List.mem_of_getElem? (i := 58) rfl)) (by decide +kernel) (EW.cons (hw _ (List.mem_of_getElem? (i := 24) rfl)) (by decide +kernel) EW.nil)))
theorem own_mem50 : ("com/example/vertumnus/vertumnus/TableName", 7) ∈ EL := List.mem_of_getElem? (i := 0) rfl
theorem own_mem58 : ("com/example/vertumnus/vertumnus/TableName", 22) ∈ EL := List.mem_of_getElem? (i := 1) rfl
theorem own_mem24 : ("java/lang/String", 7) ∈ EL := List.mem_of_getElem? (i := 2) rfl


theorem own_safeNull {Z : State} {EL : List (String × Nat)} {vm : Vm} {h : Heap} {x : Addr} (hal : Z.vm.Alike vm) (E : Exa Z h x "java/lang/String") (F : Fld Z h x "java/lang/String" "value" "[B" .null) : Safe Z EL vm h x := fun B => by
  obtain ⟨p, -, u, a, -, q, -, G, rfl | rfl⟩ := B
  · obtain ⟨cell, cf, k, i, f, h1, h2, -, -, -, -, h7⟩ := F
    cases (show h[q.sa]? = some q.sC from G.ha).symm.trans h1
    obtain ⟨cS, ⟨⟨-, -, -, ⟨c1, k1, i1, f1, -⟩, -, -, -, v1, -⟩, -⟩, -⟩ := G
    obtain ⟨k3, e3, -⟩ := State.fieldFound?_setVm (s := Z) hal h2
    have e4 := (show (Wst Z vm h).fieldFound? _ _ _ = _ from e3).symm.trans f1
    simp only [Option.some.injEq, Prod.mk.injEq] at e4
    rw [← e4.2.2.2, h7] at v1
    simp at v1
  · obtain ⟨cell, k, e1, e2, e3, -, -⟩ := E
    cases (show h[q.sd]? = some q.SA from G.hd).symm.trans e1
    obtain ⟨cS, -, -, f, -⟩ := G
    have f' : vm.findClass "[B" = some q.SA.cls := f
    rw [hal.findClass] at f'
    exact ids_ne f' e2 (by decide) rfl
def own_str (x : Int32) : List Int32 := if own_f2 x = 0 then [] else if own_f2 x = 1 then [own_f6 x 0] else if own_f2 x = 2 then [own_f6 x 0, own_f6 x 1] else [own_f6 x 0, own_f6 x 1, own_f6 x 2]
theorem own_len4 (x : Int32) : own_f2 x = 0 ∨ own_f2 x = 1 ∨ own_f2 x = 2 ∨ own_f2 x = 3 := by
  have e := Jvm.Kit.i32_mask x 3 (k := 2) (by decide) (by decide)
  have h : (x &&& 3).toInt = 0 ∨ (x &&& 3).toInt = 1 ∨ (x &&& 3).toInt = 2 ∨ (x &&& 3).toInt = 3 := by rw [e]; omega
  unfold own_f2
  rcases h with h | h | h | h
  · exact Or.inl (Int32.toInt_inj.mp (h.trans (by decide)))
  · exact Or.inr (Or.inl (Int32.toInt_inj.mp (h.trans (by decide))))
  · exact Or.inr (Or.inr (Or.inl (Int32.toInt_inj.mp (h.trans (by decide)))))
  · exact Or.inr (Or.inr (Or.inr (Int32.toInt_inj.mp (h.trans (by decide)))))
theorem own_ch (x j : Int32) : ¬ own_f6 x j < 0 ∧ ¬ (255 : Int32) < own_f6 x j := by
  unfold own_f6
  generalize (x.toUInt32 >>> (((2 : Int32) + ((8 : Int32) * j)) &&& 31).toUInt32).toInt32 = y
  have e := Jvm.Kit.i32_mask y 255 (k := 8) (by decide) (by decide)
  have e2 : (255 : Int32).toInt = 255 := by decide
  rw [Int32.lt_iff_toInt_lt, Int32.lt_iff_toInt_lt, e, e2, Int32.toInt_zero]; omega
theorem own_cn (x j : Int32) : nar .char ((own_f6 x j).toUInt32.toUInt16.toUInt32.toInt32) = own_f6 x j := by
  obtain ⟨k, hk⟩ := own_lat (own_ch x j)
  rw [hk]
  have t : ∀ k : Fin 256, nar .char ((Int32.ofNat k.val).toUInt32.toUInt16.toUInt32.toInt32) = Int32.ofNat k.val := by decide +kernel
  exact t k

def Qrm4 (Z : State) (a1 : Addr) (a2 : Addr) (p3 : Int32) (p4 : Int32) (h0 : Heap) (n0 : Nat) (v : Option Value) (h : Heap) (L : List Loc) : Prop := ∃ (tz : Addr) (kz : ClassId), v = none ∧ Fr n0 L ∧ Keep h0 h [a1] ∧ Exa Z h a1 "java/lang/String" ∧ Fld Z h a1 "java/lang/String" "value" "[B" (.ref tz) ∧ Fld Z h a1 "java/lang/String" "coder" "B" (.int (0 : Int32)) ∧ Arv Z h tz kz .byte (0 : Int32) ((own_cs24.map fun c => c.toInt8.toInt32).map Value.int) (.int (0 : Int32))
theorem d4_0 : decode jdk_42_method_149_code 0 = .ok (.aload_n 0, 1) := by decide +kernel
theorem d4_1 : decode jdk_42_method_149_code 1 = .ok (.invokespecial 1, 3) := by decide +kernel
theorem d4_4 : decode jdk_42_method_149_code 4 = .ok (.iload_n 3, 1) := by decide +kernel
theorem d4_5 : decode jdk_42_method_149_code 5 = .ok (.ifCond .ne 22, 3) := by decide +kernel
theorem d4_8 : decode jdk_42_method_149_code 8 = .ok (.aload_n 0, 1) := by decide +kernel
theorem d4_9 : decode jdk_42_method_149_code 9 = .ok (.ldc 7, 2) := by decide +kernel
theorem d4_11 : decode jdk_42_method_149_code 11 = .ok (.getfield 9, 3) := by decide +kernel
theorem d4_14 : decode jdk_42_method_149_code 14 = .ok (.putfield 9, 3) := by decide +kernel
theorem d4_17 : decode jdk_42_method_149_code 17 = .ok (.aload_n 0, 1) := by decide +kernel
theorem d4_18 : decode jdk_42_method_149_code 18 = .ok (.ldc 7, 2) := by decide +kernel
theorem d4_20 : decode jdk_42_method_149_code 20 = .ok (.getfield 15, 3) := by decide +kernel
theorem d4_23 : decode jdk_42_method_149_code 23 = .ok (.putfield 15, 3) := by decide +kernel
theorem d4_26 : decode jdk_42_method_149_code 26 = .ok (.return_, 1) := by decide +kernel
theorem ef_4 (m : MethodId) (x0 : Addr) (x1 : Addr) (x2 : Int32) (x3 : Int32) : entryFrame m #[(.ref x0), (.ref x1), (.int x2), (.int x3), .null] 6 = mkF m 0 #[.val (.ref x0), .val (.ref x1), .val (.int x2), .val (.int x3), .val .null, .unset] [] := by first | (simp [entryFrame, mkF, argsToLocals, Value.category]; done) | rfl
set_option maxRecDepth 65536 in
set_option maxHeartbeats 40000000 in
theorem rm4 (l : Launch) (Z : State) (a0 : Array Value) (hw : ∀ d ∈ tables_1, d.before a0 Z = true) (ws : List Jvm.Cond) (a1 : Addr) (a2 : Addr) (p3 : Int32) (p4 : Int32) (h0 : Heap) (n0 : Nat) (Z0 : n0 ≤ h0.size) (E_a1 : Exa Z h0 a1 "java/lang/String") (F_value_a1 : Fld Z h0 a1 "java/lang/String" "value" "[B" .null) (F_coder_a1 : Fld Z h0 a1 "java/lang/String" "coder" "B" (.int (0 : Int32))) (ge_a1 : n0 ≤ a1) (hp : p4 = (0 : Int32)) :
    MetFree l (⟨"java/lang/String", "<init>", "([CIILjava/lang/Void;)V"⟩ : MethodName) (head1 (Jvm.Cond.code (⟨"java/lang/String", "<init>", "([CIILjava/lang/Void;)V"⟩ : MethodName) jdk_42_method_149_code 6 none :: ws) ({ frames := 1, cells := 4, slots := 8, locals := 12 } : Room)) (fun a U => a = #[(.ref a1), (.ref a2), (.int p3), (.int p4), .null] ∧ Z.Warmed39 U.vm ∧ U.heap = h0 ∧ CHv Z EL U.vm h0) (fun _ _ _ _ _ => True) (fun _ U o U' => ∃ v L, o = .returned v ∧ Qrm4 Z a1 a2 p3 p4 h0 n0 v U'.heap L ∧ CHr Z EL U.vm U.heap U'.vm U'.heap ∧ ReturnedEndW U o U' L ({ frames := 1, cells := 4, slots := 8, locals := 12 } : Room).cells ({ frames := 1, cells := 4, slots := 8, locals := 12 } : Room).slots) := by
  refine MetFree.of_bodySF (plainFor_of_name pn_1) hisR ?_
  intro p e s m args below meth c s₁ Bd hml0 hP hK
  obtain ⟨rfl, hZ, hh, hCH⟩ := hP
  have hS0 : s.Since s.vm 0 := (State.WarmedH.refl s).since 0
  have CR0 : CHr Z EL s.vm h0 s.vm h0 := CHr.refl hCH
  have hx := Bd.exec
  have hby := Bd.bytes
  have hml : c.maxLocals = 6 := hml0
  have hown : s.vm.findClass "java/lang/String" = some m.cls := findClass_of_methodNamed Bd.named
  have hnm := (name_of_methodNamed Bd.named Bd.method).1
  have X0 : Stand p l e ({ frames := 1, cells := 4, slots := 8, locals := 12 } : Room) s m #[(.ref a1), (.ref a2), (.int p3), (.int p4), .null] below meth c s₁ [] 0 0 := Stand.of_body Bd
  have e0 : s₁.heap = h0 := by rw [← hh, Bd.state]; rfl
  have N0 := Fr.nil n0
  have pre0 : ∀ t, Steps p.tables e below (s₁.setTop (mkF m 0 #[.val (.ref a1), .val (.ref a2), .val (.int p3), .val (.int p4), .val .null, .unset] [])) t → Steps p.tables e below (s₁.setTop (entryFrame m #[(.ref a1), (.ref a2), (.int p3), (.int p4), .null] 6)) t := fun t k => castTop (ef_4 m a1 a2 p3 p4) k
  have hEL : EW Z a0 EL := own_EW hw
  have wS : ∀ a ∈ Bundle.stringAtoms, a.before a0 Z = true := fun d hd => hw d ((by decide +kernel : ∀ d ∈ Bundle.stringAtoms, d ∈ tables_1) d hd)
  subst hp
  have pre1 : ∀ t, Steps p.tables e below (s₁.setTop (mkF m 1 #[.val (.ref a1), .val (.ref a2), .val (.int p3), .val (.int (0 : Int32)), .val .null, .unset] [(.ref a1)])) t → Steps p.tables e below (s₁.setTop (entryFrame m #[(.ref a1), (.ref a2), (.int p3), (.int (0 : Int32)), .null] 6)) t := by
    intro t kt
    refine pre0 t ?_
    show Steps p.tables e below (s₁.setTop (mkF m 0 #[.val (.ref a1), .val (.ref a2), .val (.int p3), .val (.int (0 : Int32)), .val .null, .unset] [])) _
    refine XS.aloadN X0.here hx rfl (hb hby d4_0) rfl rfl ?_
    exact kt
  obtain ⟨T2, X2, e2, st2⟩ := initO X0 hx hZ hown (hw _ (List.mem_of_getElem? (i := 21) rfl)) (hw _ (List.mem_of_getElem? (i := 22) rfl)) (hw _ (List.mem_of_getElem? (i := 23) rfl)) e0 (g := (mkF m 1 #[.val (.ref a1), .val (.ref a2), .val (.int p3), .val (.int (0 : Int32)), .val .null, .unset] [(.ref a1)])) rfl (by rw [hml]; rfl) rfl (hb hby d4_1) (by decide) (W := 0) (by show 2 * 0 + _ ≤ _; exact Nat.le_of_eq rfl) (by decide)
  have pre2 : ∀ t, Steps p.tables e below (T2.setTop (mkF m 4 #[.val (.ref a1), .val (.ref a2), .val (.int p3), .val (.int (0 : Int32)), .val .null, .unset] [])) t → Steps p.tables e below (s₁.setTop (entryFrame m #[(.ref a1), (.ref a2), (.int p3), (.int (0 : Int32)), .null] 6)) t := fun t kt => pre1 t (st2 _ kt)
  have pre3 : ∀ t, Steps p.tables e below (T2.setTop (mkF m 9 #[.val (.ref a1), .val (.ref a2), .val (.int p3), .val (.int (0 : Int32)), .val .null, .unset] [(.ref a1)])) t → Steps p.tables e below (s₁.setTop (entryFrame m #[(.ref a1), (.ref a2), (.int p3), (.int (0 : Int32)), .null] 6)) t := by
    intro t kt
    refine pre2 t ?_
    show Steps p.tables e below (T2.setTop (mkF m 4 #[.val (.ref a1), .val (.ref a2), .val (.int p3), .val (.int (0 : Int32)), .val .null, .unset] [])) _
    refine XS.iloadN X2.here hx rfl (hb hby d4_4) rfl ?_
    show Steps p.tables e below (T2.setTop (mkF m 5 #[.val (.ref a1), .val (.ref a2), .val (.int p3), .val (.int (0 : Int32)), .val .null, .unset] [(.int (0 : Int32))])) _
    refine XS.ifNo X2.here hx rfl (hb hby d4_5) rfl ((if0 _ _).trans (teq (by decide)).2) ?_
    show Steps p.tables e below (T2.setTop (mkF m 8 #[.val (.ref a1), .val (.ref a2), .val (.int p3), .val (.int (0 : Int32)), .val .null, .unset] [])) _
    refine XS.aloadN X2.here hx rfl (hb hby d4_8) rfl rfl ?_
    exact kt
  obtain ⟨a4, T4, h4, k4, b4, kb4, X4, e4, E4, hS4, hk4, hZ, hown, A4, C4, F4, V4, la4, lb4, CQ4, Li4, sf4, st4⟩ := ldcCH (s := s) (vm0 := s.vm) (text := own_t24) X2 hx hZ hown (hw _ (List.mem_of_getElem? (i := 24) rfl)) wS e2 hS0 (Nat.zero_le _) hEL own_mem24 CR0.1 (vs := (own_cs24.map fun c => c.toInt8.toInt32).map Value.int) (z := (0 : Int32)) own_ht24 (by decide) (by decide +kernel) (g := (mkF m 9 #[.val (.ref a1), .val (.ref a2), .val (.int p3), .val (.int (0 : Int32)), .val .null, .unset] [(.ref a1)])) rfl (hb hby d4_9) (n := 0) (by decide +kernel) (by decide) (by decide) (by decide)
  have K4 : Keep h0 h4 [a1] := (Keep.refl h0 [a1]).ext E4
  have Z4 : n0 ≤ h4.size := Nat.le_trans Z0 E4.1
  have mo4_0 := Nat.le_trans (Nat.zero_le _) E4.1
  have E_a1_5 := E_a1.ext E4
  have F_value_a1_6 := F_value_a1.ext E4
  have F_coder_a1_7 := F_coder_a1.ext E4
  have CR4 := CR0.trans CQ4
  have nel4_a1 := sf4 _ (own_safeNull (hZ.alike) E_a1_5 F_value_a1_6)
  have pre4 : ∀ t, Steps p.tables e below (T4.setTop (mkF m 11 #[.val (.ref a1), .val (.ref a2), .val (.int p3), .val (.int (0 : Int32)), .val .null, .unset] [(.ref a4), (.ref a1)])) t → Steps p.tables e below (s₁.setTop (entryFrame m #[(.ref a1), (.ref a2), (.int p3), (.int (0 : Int32)), .null] 6)) t := fun t kt => pre3 t (st4 _ kt)
  obtain ⟨T8, X8, e8, st8⟩ := getF X4 hx hZ hown (host := "") (Or.inl (hw _ (List.mem_of_getElem? (i := 30) rfl))) Via.refl e4 F4 (g := (mkF m 11 #[.val (.ref a1), .val (.ref a2), .val (.int p3), .val (.int (0 : Int32)), .val .null, .unset] [(.ref a4), (.ref a1)])) rfl rfl (hb hby d4_11)
  have pre8 : ∀ t, Steps p.tables e below (T8.setTop (mkF m 14 #[.val (.ref a1), .val (.ref a2), .val (.int p3), .val (.int (0 : Int32)), .val .null, .unset] [(.ref b4), (.ref a1)])) t → Steps p.tables e below (s₁.setTop (entryFrame m #[(.ref a1), (.ref a2), (.int p3), (.int (0 : Int32)), .null] 6)) t := fun t kt => pre4 t (st8 _ kt)
  obtain ⟨T9, h9, X9, e9, W9, st9⟩ := putF X8 hx hZ hown (host := "") (Or.inl (hw _ (List.mem_of_getElem? (i := 30) rfl))) Via.refl e8 F_value_a1_6 E_a1_5 (Or.inr ⟨(hw _ (List.mem_of_getElem? (i := 26) rfl)), rfl, hnm⟩) (hw _ (List.mem_of_getElem? (i := 12) rfl)) (ty := (.array .byte)) (by decide) rfl rfl (g := (mkF m 14 #[.val (.ref a1), .val (.ref a2), .val (.int p3), .val (.int (0 : Int32)), .val .null, .unset] [(.ref b4), (.ref a1)])) rfl rfl (hb hby d4_14)
  have N9 := Fr.snoc X9 N0 ge_a1
  have K9 : Keep h0 h9 [a1] := K4.wr W9 (Or.inl (List.mem_of_getElem? (i := 0) rfl))
  have Z9 : n0 ≤ h9.size := Nat.le_trans Z4 (Keep.of_wr W9).1
  have mo9_0 := Nat.le_trans hk4 (Keep.of_wr W9).1
  have sfn9 := (own_safeNull (EL := EL) (hZ.alike) E_a1_5 F_value_a1_6)
  have sfx9_a1 := Safe.wr W9 sfn9 CR4.1 sfn9
  have CR9 := CR4.trans (CHr.wr W9 sfn9 CR4.1)
  have E_a1_10 := E_a1_5.wr W9
  have F_value_a1_11 := F_value_a1_6.same W9
  have F_coder_a1_12 := F_coder_a1_7.other W9 (Or.inr (slot_ne (Or.inr (hw _ (List.mem_of_getElem? (i := 27) rfl))) (Or.inr (hw _ (List.mem_of_getElem? (i := 26) rfl))) (by decide) (t := .byte) (t' := (.array .byte)) (by decide) (by decide)))
  have A4_13 := A4.wr W9
  have C4_14 := C4.other W9 (Or.inl (Ne.symm nel4_a1.1))
  have F4_15 := F4.other W9 (Or.inl (Ne.symm nel4_a1.1))
  have V4_16 := V4.other W9 (Ne.symm nel4_a1.2)
  have pre9 : ∀ t, Steps p.tables e below (T9.setTop (mkF m 17 #[.val (.ref a1), .val (.ref a2), .val (.int p3), .val (.int (0 : Int32)), .val .null, .unset] [])) t → Steps p.tables e below (s₁.setTop (entryFrame m #[(.ref a1), (.ref a2), (.int p3), (.int (0 : Int32)), .null] 6)) t := fun t kt => pre8 t (st9 _ kt)
  have pre17 : ∀ t, Steps p.tables e below (T9.setTop (mkF m 18 #[.val (.ref a1), .val (.ref a2), .val (.int p3), .val (.int (0 : Int32)), .val .null, .unset] [(.ref a1)])) t → Steps p.tables e below (s₁.setTop (entryFrame m #[(.ref a1), (.ref a2), (.int p3), (.int (0 : Int32)), .null] 6)) t := by
    intro t kt
    refine pre9 t ?_
    show Steps p.tables e below (T9.setTop (mkF m 17 #[.val (.ref a1), .val (.ref a2), .val (.int p3), .val (.int (0 : Int32)), .val .null, .unset] [])) _
    refine XS.aloadN X9.here hx rfl (hb hby d4_17) rfl rfl ?_
    exact kt
  obtain ⟨a18, T18, h18, k18, b18, kb18, X18, e18, E18, hS18, hk18, hZ, hown, A18, C18, F18, V18, la18, lb18, CQ18, Li18, sf18, st18⟩ := ldcCH (s := s) (vm0 := T4.vm) (text := own_t24) X9 hx hZ hown (hw _ (List.mem_of_getElem? (i := 24) rfl)) wS e9 hS4 mo9_0 hEL own_mem24 CR9.1 (vs := (own_cs24.map fun c => c.toInt8.toInt32).map Value.int) (z := (0 : Int32)) own_ht24 (by decide) (by decide +kernel) (g := (mkF m 18 #[.val (.ref a1), .val (.ref a2), .val (.int p3), .val (.int (0 : Int32)), .val .null, .unset] [(.ref a1)])) rfl (hb hby d4_18) (n := 0) (by decide +kernel) (by decide) (by decide) (by decide)
  have sfx18_a1 := CHr.safe CQ18 E_a1_10.lt sfx9_a1
  have K18 : Keep h0 h18 [a1] := K9.ext E18
  have Z18 : n0 ≤ h18.size := Nat.le_trans Z9 E18.1
  have mo18_0 := Nat.le_trans mo9_0 E18.1
  have E_a1_19 := E_a1_10.ext E18
  have F_value_a1_20 := F_value_a1_11.ext E18
  have F_coder_a1_21 := F_coder_a1_12.ext E18
  have A4_22 := A4_13.ext E18
  have C4_23 := C4_14.ext E18
  have F4_24 := F4_15.ext E18
  have V4_25 := V4_16.ext E18
  have CR18 := CR9.trans CQ18
  have nel18_a1 := sf18 _ sfx18_a1
  have pre18 : ∀ t, Steps p.tables e below (T18.setTop (mkF m 20 #[.val (.ref a1), .val (.ref a2), .val (.int p3), .val (.int (0 : Int32)), .val .null, .unset] [(.ref a18), (.ref a1)])) t → Steps p.tables e below (s₁.setTop (entryFrame m #[(.ref a1), (.ref a2), (.int p3), (.int (0 : Int32)), .null] 6)) t := fun t kt => pre17 t (st18 _ kt)
  obtain ⟨T26, X26, e26, st26⟩ := getF X18 hx hZ hown (host := "") (Or.inl (hw _ (List.mem_of_getElem? (i := 31) rfl))) Via.refl e18 C18 (g := (mkF m 20 #[.val (.ref a1), .val (.ref a2), .val (.int p3), .val (.int (0 : Int32)), .val .null, .unset] [(.ref a18), (.ref a1)])) rfl rfl (hb hby d4_20)
  have pre26 : ∀ t, Steps p.tables e below (T26.setTop (mkF m 23 #[.val (.ref a1), .val (.ref a2), .val (.int p3), .val (.int (0 : Int32)), .val .null, .unset] [(.int (0 : Int32)), (.ref a1)])) t → Steps p.tables e below (s₁.setTop (entryFrame m #[(.ref a1), (.ref a2), (.int p3), (.int (0 : Int32)), .null] 6)) t := fun t kt => pre18 t (st26 _ kt)
  obtain ⟨T27, h27, X27, e27, W27, st27⟩ := putFN X26 hx hZ hown (hw _ (List.mem_of_getElem? (i := 31) rfl)) Via.refl e26 F_coder_a1_21 E_a1_19 (Or.inr ⟨(hw _ (List.mem_of_getElem? (i := 27) rfl)), rfl, hnm⟩) (hw _ (List.mem_of_getElem? (i := 12) rfl)) (ty := .byte) (v' := (.int (0 : Int32))) (by decide) rfl rfl (g := (mkF m 23 #[.val (.ref a1), .val (.ref a2), .val (.int p3), .val (.int (0 : Int32)), .val .null, .unset] [(.int (0 : Int32)), (.ref a1)])) rfl rfl (hb hby d4_23)
  have N27 := Fr.snoc X27 N9 ge_a1
  have K27 : Keep h0 h27 [a1] := K18.wr W27 (Or.inl (List.mem_of_getElem? (i := 0) rfl))
  have Z27 : n0 ≤ h27.size := Nat.le_trans Z18 (Keep.of_wr W27).1
  have mo27_0 := Nat.le_trans hk18 (Keep.of_wr W27).1
  have sfx27_a1 := Safe.wr W27 sfx18_a1 CR18.1 sfx18_a1
  have CR27 := CR18.trans (CHr.wr W27 sfx18_a1 CR18.1)
  have E_a1_28 := E_a1_19.wr W27
  have F_value_a1_29 := F_value_a1_20.other W27 (Or.inr (slot_ne (Or.inr (hw _ (List.mem_of_getElem? (i := 26) rfl))) (Or.inr (hw _ (List.mem_of_getElem? (i := 27) rfl))) (by decide) (t := (.array .byte)) (t' := .byte) (by decide) (by decide)))
  have F_coder_a1_30 := F_coder_a1_21.same W27
  have A4_31 := A4_22.wr W27
  have C4_32 := C4_23.other W27 (Or.inl (Ne.symm nel4_a1.1))
  have F4_33 := F4_24.other W27 (Or.inl (Ne.symm nel4_a1.1))
  have V4_34 := V4_25.other W27 (Ne.symm nel4_a1.2)
  have A18_35 := A18.wr W27
  have C18_36 := C18.other W27 (Or.inl (Ne.symm nel18_a1.1))
  have F18_37 := F18.other W27 (Or.inl (Ne.symm nel18_a1.1))
  have V18_38 := V18.other W27 (Ne.symm nel18_a1.2)
  have pre27 : ∀ t, Steps p.tables e below (T27.setTop (mkF m 26 #[.val (.ref a1), .val (.ref a2), .val (.int p3), .val (.int (0 : Int32)), .val .null, .unset] [])) t → Steps p.tables e below (s₁.setTop (entryFrame m #[(.ref a1), (.ref a2), (.int p3), (.int (0 : Int32)), .null] 6)) t := fun t kt => pre26 t (st27 _ kt)
  obtain ⟨fs, hr, hrun, hended, hEnd⟩ := X27.leaveW (s := s) (vm₁ := T18.vm) hS18 (by rw [e27]; exact mo27_0) (v := none) (fun _ => rfl)
  refine ⟨_, _, pre27 _ ?_, hrun, hended, _, _, rfl, ?_, (by rw [hh]; exact CR27.trans (by rw [show (T27.setFrames fs).heap = h27 from e27]; exact (show CHr Z EL T18.vm h27 T27.vm h27 from CHv.at (s := s) (vm0 := T18.vm) X27 hZ hEL CR27.1))), hEnd.1, hEnd.2.1, hEnd.2.2.1, hEnd.2.2.2.mono (by decide) (by decide)⟩
  · show Steps p.tables e below (T27.setTop (mkF m 26 #[.val (.ref a1), .val (.ref a2), .val (.int p3), .val (.int (0 : Int32)), .val .null, .unset] [])) _
    exact X27.returnOut hx Bd.returns (hb hby d4_26) hr
  · show Qrm4 Z a1 a2 p3 (0 : Int32) h0 n0 _ T27.heap _
    rw [e27]
    exact ⟨b4, kb4, rfl, N27, K27, E_a1_28, F_value_a1_29, F_coder_a1_30, V4_34⟩
def Qrm3 (Z : State) (a1 : Addr) (a2 : Addr) (kd : ClassId) (h0 : Heap) (n0 : Nat) (v : Option Value) (h : Heap) (L : List Loc) : Prop := ∃ (tz : Addr) (kz : ClassId), v = none ∧ Fr n0 L ∧ Keep h0 h [a1] ∧ Exa Z h a1 "java/lang/String" ∧ Fld Z h a1 "java/lang/String" "value" "[B" (.ref tz) ∧ Fld Z h a1 "java/lang/String" "coder" "B" (.int (0 : Int32)) ∧ Arv Z h tz kz .byte (0 : Int32) ((own_cs24.map fun c => c.toInt8.toInt32).map Value.int) (.int (0 : Int32))
theorem d3_0 : decode jdk_42_method_3_code 0 = .ok (.aload_n 0, 1) := by decide +kernel
theorem d3_1 : decode jdk_42_method_3_code 1 = .ok (.aload_n 1, 1) := by decide +kernel
theorem d3_2 : decode jdk_42_method_3_code 2 = .ok (.iconst 0, 1) := by decide +kernel
theorem d3_3 : decode jdk_42_method_3_code 3 = .ok (.aload_n 1, 1) := by decide +kernel
theorem d3_4 : decode jdk_42_method_3_code 4 = .ok (.arraylength, 1) := by decide +kernel
theorem d3_5 : decode jdk_42_method_3_code 5 = .ok (.aconst_null, 1) := by decide +kernel
theorem d3_6 : decode jdk_42_method_3_code 6 = .ok (.invokespecial 27, 3) := by decide +kernel
theorem d3_9 : decode jdk_42_method_3_code 9 = .ok (.return_, 1) := by decide +kernel
theorem ef_3 (m : MethodId) (x0 : Addr) (x1 : Addr) : entryFrame m #[(.ref x0), (.ref x1)] 2 = mkF m 0 #[.val (.ref x0), .val (.ref x1)] [] := by first | (simp [entryFrame, mkF, argsToLocals, Value.category]; done) | rfl
set_option maxRecDepth 65536 in
set_option maxHeartbeats 40000000 in
theorem rm3 (l : Launch) (Z : State) (a0 : Array Value) (hw : ∀ d ∈ tables_1, d.before a0 Z = true) (ws : List Jvm.Cond) (a1 : Addr) (a2 : Addr) (kd : ClassId) (h0 : Heap) (n0 : Nat) (Z0 : n0 ≤ h0.size) (E_a1 : Exa Z h0 a1 "java/lang/String") (F_value_a1 : Fld Z h0 a1 "java/lang/String" "value" "[B" .null) (F_coder_a1 : Fld Z h0 a1 "java/lang/String" "coder" "B" (.int (0 : Int32))) (V_a2 : Arv Z h0 a2 kd .char (0 : Int32) [] (.int (0 : Int32))) (ge_a1 : n0 ≤ a1) (ne_a1_a2 : a1 ≠ a2) :
    MetFree l (⟨"java/lang/String", "<init>", "([C)V"⟩ : MethodName) (head1 (Jvm.Cond.code (⟨"java/lang/String", "<init>", "([C)V"⟩ : MethodName) jdk_42_method_3_code 2 none :: ws) ({ frames := 2, cells := 4, slots := 8, locals := 29 } : Room)) (fun a U => a = #[(.ref a1), (.ref a2)] ∧ Z.Warmed39 U.vm ∧ U.heap = h0 ∧ CHv Z EL U.vm h0) (fun _ _ _ _ _ => True) (fun _ U o U' => ∃ v L, o = .returned v ∧ Qrm3 Z a1 a2 kd h0 n0 v U'.heap L ∧ CHr Z EL U.vm U.heap U'.vm U'.heap ∧ ReturnedEndW U o U' L ({ frames := 2, cells := 4, slots := 8, locals := 29 } : Room).cells ({ frames := 2, cells := 4, slots := 8, locals := 29 } : Room).slots) := by
  refine MetFree.of_bodySF (plainFor_of_name pn_1) hisR ?_
  intro p e s m args below meth c s₁ Bd hml0 hP hK
  obtain ⟨rfl, hZ, hh, hCH⟩ := hP
  have hS0 : s.Since s.vm 0 := (State.WarmedH.refl s).since 0
  have CR0 : CHr Z EL s.vm h0 s.vm h0 := CHr.refl hCH
  have hx := Bd.exec
  have hby := Bd.bytes
  have hml : c.maxLocals = 2 := hml0
  have hown : s.vm.findClass "java/lang/String" = some m.cls := findClass_of_methodNamed Bd.named
  have hnm := (name_of_methodNamed Bd.named Bd.method).1
  have X0 : Stand p l e ({ frames := 2, cells := 4, slots := 8, locals := 29 } : Room) s m #[(.ref a1), (.ref a2)] below meth c s₁ [] 0 0 := Stand.of_body Bd
  have e0 : s₁.heap = h0 := by rw [← hh, Bd.state]; rfl
  have N0 := Fr.nil n0
  have pre0 : ∀ t, Steps p.tables e below (s₁.setTop (mkF m 0 #[.val (.ref a1), .val (.ref a2)] [])) t → Steps p.tables e below (s₁.setTop (entryFrame m #[(.ref a1), (.ref a2)] 2)) t := fun t k => castTop (ef_3 m a1 a2) k
  have hEL : EW Z a0 EL := own_EW hw
  have wS : ∀ a ∈ Bundle.stringAtoms, a.before a0 Z = true := fun d hd => hw d ((by decide +kernel : ∀ d ∈ Bundle.stringAtoms, d ∈ tables_1) d hd)
  have pre2 : ∀ t, Steps p.tables e below (s₁.setTop (mkF m 6 #[.val (.ref a1), .val (.ref a2)] [.null, (.int (0 : Int32)), (.int (0 : Int32)), (.ref a2), (.ref a1)])) t → Steps p.tables e below (s₁.setTop (entryFrame m #[(.ref a1), (.ref a2)] 2)) t := by
    intro t kt
    refine pre0 t ?_
    show Steps p.tables e below (s₁.setTop (mkF m 0 #[.val (.ref a1), .val (.ref a2)] [])) _
    refine XS.aloadN X0.here hx rfl (hb hby d3_0) rfl rfl ?_
    show Steps p.tables e below (s₁.setTop (mkF m 1 #[.val (.ref a1), .val (.ref a2)] [(.ref a1)])) _
    refine XS.aloadN X0.here hx rfl (hb hby d3_1) rfl rfl ?_
    show Steps p.tables e below (s₁.setTop (mkF m 2 #[.val (.ref a1), .val (.ref a2)] [(.ref a2), (.ref a1)])) _
    refine XS.iconst X0.here hx rfl (hb hby d3_2) ?_
    show Steps p.tables e below (s₁.setTop (mkF m 3 #[.val (.ref a1), .val (.ref a2)] [(.int (0 : Int32)), (.ref a2), (.ref a1)])) _
    refine XS.aloadN X0.here hx rfl (hb hby d3_3) rfl rfl ?_
    show Steps p.tables e below (s₁.setTop (mkF m 4 #[.val (.ref a1), .val (.ref a2)] [(.ref a2), (.int (0 : Int32)), (.ref a2), (.ref a1)])) _
    obtain ⟨cl1, Ar1, -, S1, M1, -, -⟩ := (id V_a2)
    refine X0.arraylength hx (by rw [e0]; exact Ar1.1) (State.isArrayOf_alike hZ.alike Ar1.2.1) (g := (mkF m 4 #[.val (.ref a1), .val (.ref a2)] [(.ref a2), (.int (0 : Int32)), (.ref a2), (.ref a1)])) rfl rfl (hb hby d3_4) _ ?_
    rw [len_of S1 M1]
    show Steps p.tables e below (s₁.setTop (mkF m 5 #[.val (.ref a1), .val (.ref a2)] [(.int (0 : Int32)), (.int (0 : Int32)), (.ref a2), (.ref a1)])) _
    refine XS.aconstNull X0.here hx rfl (hb hby d3_5) ?_
    exact kt
  obtain ⟨_, _, ⟨T3, L3, k3, n3⟩, -, X3, hSq3, hgq3, ⟨Lc3, hQ3, l3, y3, z3, CQ3⟩, st3⟩ := X0.specialBackS (s := s.setVm s.vm) hx (y := (⟨"java/lang/String", "<init>", "([CIILjava/lang/Void;)V"⟩ : MethodName)) rfl hown (mvT hZ (hw _ (List.mem_of_getElem? (i := 17) rfl))) (mvT hZ (hw _ (List.mem_of_getElem? (i := 18) rfl))) (mvT hZ (hw _ (List.mem_of_getElem? (i := 20) rfl))) (by decide) (backOfSH (s := s) (vm0 := s.vm) (W := 0) (rm4 l Z a0 hw [] a1 a2 (0 : Int32) (0 : Int32) h0 n0 Z0 E_a1 F_value_a1 F_coder_a1 ge_a1 (rfl)) hZ (hw _ (List.mem_of_getElem? (i := 20) rfl)) (hw _ (List.mem_of_getElem? (i := 13) rfl)) (by decide) (by decide) hEL CR0.1) (g := (mkF m 6 #[.val (.ref a1), .val (.ref a2)] [.null, (.int (0 : Int32)), (.int (0 : Int32)), (.ref a2), (.ref a1)])) rfl (by rw [hml]; rfl) (Steps.refl _) (a := a1) (argsL := [(.ref a2), (.int (0 : Int32)), (.int (0 : Int32)), .null]) (rest := []) (lenOf pd_0 rfl) rfl (by show 2 * 0 + _ ≤ _; exact Nat.le_of_eq rfl) (hb hby d3_6) (fun _ _ => ⟨rfl, e0, (by decide : 0 + 4 ≤ _), (by decide : 0 + 8 ≤ _)⟩)
  dsimp only [Pt.U, Pt.locs, Pt.cells, Pt.slots] at X3 l3 y3 z3 st3 hQ3
  subst l3 y3 z3
  have hS3 := foldS hS0 (by rw [e0]; exact (Nat.zero_le _)) hSq3 hgq3
  have hown := show T3.vm.findClass _ = some m.cls from (by rw [hSq3.1.alike.findClass]; exact hown)
  have hZ := State.Warmed39.trans (t := s.setVm s.vm) hZ hSq3.1
  have CR3 := CR0.trans CQ3
  obtain ⟨tz_3, kz_3, rfl, N3q, KC3, P3_0, P3_1, P3_2, P3_3⟩ := hQ3
  have N3 := Fr.app N0 N3q
  have Z3 : n0 ≤ T3.heap.size := Nat.le_trans Z0 KC3.1
  have mo3_0 := Nat.le_trans (Nat.zero_le _) KC3.1
  have K3 : Keep h0 T3.heap [a1] := (Keep.refl h0 [a1]).trans KC3 (allS (Or.inl (List.mem_of_getElem? (i := 0) rfl)) all0)
  have E_a1_4 := E_a1.keep KC3
  have V_a2_7 := V_a2.keep KC3 (ninS (Ne.symm ne_a1_a2) nin0)
  have E_a1_3 : Exa Z T3.heap a1 "java/lang/String" := P3_0
  have F_value_a1_3 : Fld Z T3.heap a1 "java/lang/String" "value" "[B" (.ref tz_3) := P3_1
  have F_coder_a1_3 : Fld Z T3.heap a1 "java/lang/String" "coder" "B" (.int (0 : Int32)) := P3_2
  have V_tz_3_3 : Arv Z T3.heap tz_3 kz_3 .byte (0 : Int32) ((own_cs24.map fun c => c.toInt8.toInt32).map Value.int) (.int (0 : Int32)) := P3_3
  have pre3 : ∀ t, Steps p.tables e below (T3.setTop (mkF m 9 #[.val (.ref a1), .val (.ref a2)] [])) t → Steps p.tables e below (s₁.setTop (entryFrame m #[(.ref a1), (.ref a2)] 2)) t := fun t kt => pre2 t (st3.trans kt)
  obtain ⟨fs, hr, hrun, hended, hEnd⟩ := X3.leaveW (s := s) (vm₁ := T3.vm) hS3 (Nat.le_refl T3.heap.size) (v := none) (fun _ => rfl)
  refine ⟨_, _, pre3 _ ?_, hrun, hended, _, _, rfl, ?_, (by rw [hh]; exact CR3.trans (by rw [show (T3.setFrames fs).heap = T3.heap from rfl]; exact (show CHr Z EL T3.vm T3.heap T3.vm T3.heap from CHv.at (s := s) (vm0 := T3.vm) X3 hZ hEL CR3.1))), hEnd.1, hEnd.2.1, hEnd.2.2.1, hEnd.2.2.2.mono (by decide) (by decide)⟩
  · show Steps p.tables e below (T3.setTop (mkF m 9 #[.val (.ref a1), .val (.ref a2)] [])) _
    exact X3.returnOut hx Bd.returns (hb hby d3_9) hr
  · show Qrm3 Z a1 a2 kd h0 n0 _ T3.heap _
    exact ⟨tz_3, kz_3, rfl, N3, K3, E_a1_3, F_value_a1_3, F_coder_a1_3, V_tz_3_3⟩
def Qrm1 (Z : State) (p1 : Int32) (cz : Int32) (h0 : Heap) (n0 : Nat) (v : Option Value) (h : Heap) (L : List Loc) : Prop := ∃ (az : Addr) (tz : Addr) (kz : ClassId), v = some (.ref az) ∧ Fr n0 L ∧ Keep h0 h [] ∧ Exa Z h az "java/lang/String" ∧ Fld Z h az "java/lang/String" "value" "[B" (.ref tz) ∧ Fld Z h az "java/lang/String" "coder" "B" (.int (0 : Int32)) ∧ Arv Z h tz kz .byte (own_f2 p1) (((own_str p1).map fun c => c.toInt8.toInt32).map Value.int) (.int (0 : Int32)) ∧ n0 ≤ az ∧ h0.size ≤ az
theorem d1_0 : decode method_4_code 0 = .ok (.iload_n 0, 1) := by decide +kernel
theorem d1_1 : decode method_4_code 1 = .ok (.invokestatic 7, 3) := by decide +kernel
theorem d1_4 : decode method_4_code 4 = .ok (.istore_n 1, 1) := by decide +kernel
theorem d1_5 : decode method_4_code 5 = .ok (.iload_n 1, 1) := by decide +kernel
theorem d1_6 : decode method_4_code 6 = .ok (.newarray .char, 2) := by decide +kernel
theorem d1_8 : decode method_4_code 8 = .ok (.astore_n 2, 1) := by decide +kernel
theorem d1_9 : decode method_4_code 9 = .ok (.iload_n 1, 1) := by decide +kernel
theorem d1_10 : decode method_4_code 10 = .ok (.ifCond .le 12, 3) := by decide +kernel
theorem d1_13 : decode method_4_code 13 = .ok (.aload_n 2, 1) := by decide +kernel
theorem d1_14 : decode method_4_code 14 = .ok (.iconst 0, 1) := by decide +kernel
theorem d1_15 : decode method_4_code 15 = .ok (.iload_n 0, 1) := by decide +kernel
theorem d1_16 : decode method_4_code 16 = .ok (.iconst 0, 1) := by decide +kernel
theorem d1_17 : decode method_4_code 17 = .ok (.invokestatic 13, 3) := by decide +kernel
theorem d1_20 : decode method_4_code 20 = .ok (.i2c, 1) := by decide +kernel
theorem d1_21 : decode method_4_code 21 = .ok (.castore, 1) := by decide +kernel
theorem d1_22 : decode method_4_code 22 = .ok (.iload_n 1, 1) := by decide +kernel
theorem d1_23 : decode method_4_code 23 = .ok (.iconst 1, 1) := by decide +kernel
theorem d1_24 : decode method_4_code 24 = .ok (.if_icmp .le 12, 3) := by decide +kernel
theorem d1_27 : decode method_4_code 27 = .ok (.aload_n 2, 1) := by decide +kernel
theorem d1_28 : decode method_4_code 28 = .ok (.iconst 1, 1) := by decide +kernel
theorem d1_29 : decode method_4_code 29 = .ok (.iload_n 0, 1) := by decide +kernel
theorem d1_30 : decode method_4_code 30 = .ok (.iconst 1, 1) := by decide +kernel
theorem d1_31 : decode method_4_code 31 = .ok (.invokestatic 13, 3) := by decide +kernel
theorem d1_34 : decode method_4_code 34 = .ok (.i2c, 1) := by decide +kernel
theorem d1_35 : decode method_4_code 35 = .ok (.castore, 1) := by decide +kernel
theorem d1_36 : decode method_4_code 36 = .ok (.iload_n 1, 1) := by decide +kernel
theorem d1_37 : decode method_4_code 37 = .ok (.iconst 2, 1) := by decide +kernel
theorem d1_38 : decode method_4_code 38 = .ok (.if_icmp .le 12, 3) := by decide +kernel
theorem d1_41 : decode method_4_code 41 = .ok (.aload_n 2, 1) := by decide +kernel
theorem d1_42 : decode method_4_code 42 = .ok (.iconst 2, 1) := by decide +kernel
theorem d1_43 : decode method_4_code 43 = .ok (.iload_n 0, 1) := by decide +kernel
theorem d1_44 : decode method_4_code 44 = .ok (.iconst 2, 1) := by decide +kernel
theorem d1_45 : decode method_4_code 45 = .ok (.invokestatic 13, 3) := by decide +kernel
theorem d1_48 : decode method_4_code 48 = .ok (.i2c, 1) := by decide +kernel
theorem d1_49 : decode method_4_code 49 = .ok (.castore, 1) := by decide +kernel
theorem d1_50 : decode method_4_code 50 = .ok (.new 17, 3) := by decide +kernel
theorem d1_53 : decode method_4_code 53 = .ok (.dup, 1) := by decide +kernel
theorem d1_54 : decode method_4_code 54 = .ok (.aload_n 2, 1) := by decide +kernel
theorem d1_55 : decode method_4_code 55 = .ok (.invokespecial 19, 3) := by decide +kernel
theorem d1_58 : decode method_4_code 58 = .ok (.areturn, 1) := by decide +kernel
theorem ef_1 (m : MethodId) (x0 : Int32) : entryFrame m #[(.int x0)] 3 = mkF m 0 #[.val (.int x0), .unset, .unset] [] := by first | (simp [entryFrame, mkF, argsToLocals, Value.category]; done) | rfl
set_option maxRecDepth 65536 in
set_option maxHeartbeats 40000000 in
theorem rm1 (l : Launch) (Z : State) (a0 : Array Value) (hw : ∀ d ∈ tables_1, d.before a0 Z = true) (ws : List Jvm.Cond) (p1 : Int32) (cz : Int32) (h0 : Heap) (n0 : Nat) (Z0 : n0 ≤ h0.size) (ST_COMPACT_STRINGS : Sta Z h0 "java/lang/String" "COMPACT_STRINGS" "Z" (.int cz)) (hCS : ¬ (cz = (0 : Int32))) :
    MetFree l (⟨"com/example/vertumnus/vertumnus/TableNameEqualsPinLaw", "mk", "(I)Ljava/lang/String;"⟩ : MethodName) (head1 (Jvm.Cond.code (⟨"com/example/vertumnus/vertumnus/TableNameEqualsPinLaw", "mk", "(I)Ljava/lang/String;"⟩ : MethodName) method_4_code 3 (some (.object "java/lang/String")) :: ws) ({ frames := 4, cells := 6, slots := 12, locals := 66 } : Room)) (fun a U => a = #[(.int p1)] ∧ Z.Warmed39 U.vm ∧ U.heap = h0 ∧ CHv Z EL U.vm h0) (fun _ _ _ _ _ => True) (fun _ U o U' => ∃ v L, o = .returned v ∧ Qrm1 Z p1 cz h0 n0 v U'.heap L ∧ CHr Z EL U.vm U.heap U'.vm U'.heap ∧ ReturnedEndW U o U' L ({ frames := 4, cells := 6, slots := 12, locals := 66 } : Room).cells ({ frames := 4, cells := 6, slots := 12, locals := 66 } : Room).slots) := by
  refine MetFree.of_bodySF (plainFor_of_name pn_0) hisR ?_
  intro p e s m args below meth c s₁ Bd hml0 hP hK
  obtain ⟨rfl, hZ, hh, hCH⟩ := hP
  have hS0 : s.Since s.vm 0 := (State.WarmedH.refl s).since 0
  have CR0 : CHr Z EL s.vm h0 s.vm h0 := CHr.refl hCH
  have hx := Bd.exec
  have hby := Bd.bytes
  have hml : c.maxLocals = 3 := hml0
  have hown : s.vm.findClass "com/example/vertumnus/vertumnus/TableNameEqualsPinLaw" = some m.cls := findClass_of_methodNamed Bd.named
  have hnm := (name_of_methodNamed Bd.named Bd.method).1
  have X0 : Stand p l e ({ frames := 4, cells := 6, slots := 12, locals := 66 } : Room) s m #[(.int p1)] below meth c s₁ [] 0 0 := Stand.of_body Bd
  have e0 : s₁.heap = h0 := by rw [← hh, Bd.state]; rfl
  have N0 := Fr.nil n0
  have pre0 : ∀ t, Steps p.tables e below (s₁.setTop (mkF m 0 #[.val (.int p1), .unset, .unset] [])) t → Steps p.tables e below (s₁.setTop (entryFrame m #[(.int p1)] 3)) t := fun t k => castTop (ef_1 m p1) k
  have hEL : EW Z a0 EL := own_EW hw
  have wS : ∀ a ∈ Bundle.stringAtoms, a.before a0 Z = true := fun d hd => hw d ((by decide +kernel : ∀ d ∈ Bundle.stringAtoms, d ∈ tables_1) d hd)
  have hws : ∀ d ∈ StrChars.Road.words, d.before a0 Z = true := fun d hd => hw d ((by decide +kernel : ∀ d ∈ StrChars.Road.words, d ∈ tables_1) d hd)
  have pre1 : ∀ t, Steps p.tables e below (s₁.setTop (mkF m 1 #[.val (.int p1), .unset, .unset] [(.int p1)])) t → Steps p.tables e below (s₁.setTop (entryFrame m #[(.int p1)] 3)) t := by
    intro t kt
    refine pre0 t ?_
    show Steps p.tables e below (s₁.setTop (mkF m 0 #[.val (.int p1), .unset, .unset] [])) _
    refine XS.iloadN X0.here hx rfl (hb hby d1_0) rfl ?_
    exact kt
  obtain ⟨_, _, ⟨T2, L2, k2, n2⟩, -, X2, ⟨Lc2, hQ2, l2, y2, z2⟩, st2⟩ := Jvm.LawKit.callS X0 hx (y := (⟨"com/example/vertumnus/vertumnus/TableNameEqualsPinLaw", "len", "(I)I"⟩ : MethodName)) hown (mvT hZ (hw _ (List.mem_of_getElem? (i := 7) rfl))) (mvT hZ (hw _ (List.mem_of_getElem? (i := 8) rfl))) (mvT hZ (hw _ (List.mem_of_getElem? (i := 5) rfl))) (mvT hZ (hw _ (List.mem_of_getElem? (i := 9) rfl))) (by decide) (backOf (W := 0) (rm2 l Z a0 hw [] p1 h0 n0) hZ (hw _ (List.mem_of_getElem? (i := 9) rfl)) (hw _ (List.mem_of_getElem? (i := 5) rfl)) (by decide) (by decide)) (g := (mkF m 1 #[.val (.int p1), .unset, .unset] [(.int p1)])) rfl (by rw [hml]; rfl) (argsL := [(.int p1)]) (rest := []) (lenOf pd_1 rfl) rfl (by show 2 * 0 + _ ≤ _; exact Nat.le_of_eq rfl) (hb hby d1_1) (fun _ _ => ⟨rfl, e0, (by decide : 0 + 0 ≤ _), (by decide : 0 + 0 ≤ _)⟩)
  dsimp only [Pt.U, Pt.locs, Pt.cells, Pt.slots] at X2 l2 y2 z2 st2 hQ2
  subst l2 y2 z2
  obtain ⟨rfl, N2q, e2⟩ := hQ2
  have N2 := Fr.app N0 N2q
  have pre2 : ∀ t, Steps p.tables e below (T2.setTop (mkF m 4 #[.val (.int p1), .unset, .unset] [(.int (own_f2 p1))])) t → Steps p.tables e below (s₁.setTop (entryFrame m #[(.int p1)] 3)) t := fun t kt => pre1 t (st2 _ kt)
  have pre3 : ∀ t, Steps p.tables e below (T2.setTop (mkF m 5 #[.val (.int p1), .val (.int (own_f2 p1)), .unset] [])) t → Steps p.tables e below (s₁.setTop (entryFrame m #[(.int p1)] 3)) t := by
    intro t kt
    refine pre2 t ?_
    show Steps p.tables e below (T2.setTop (mkF m 4 #[.val (.int p1), .unset, .unset] [(.int (own_f2 p1))])) _
    refine XS.istoreN X2.here hx rfl (hb hby d1_4) rfl (l' := #[.val (.int p1), .val (.int (own_f2 p1)), .unset]) rfl ?_
    exact kt
  rcases own_len4 p1 with hl | hl | hl | hl
  · rw [hl] at pre3
    have pre4 : ∀ t, Steps p.tables e below (T2.setTop (mkF m 6 #[.val (.int p1), .val (.int (0 : Int32)), .unset] [(.int (0 : Int32))])) t → Steps p.tables e below (s₁.setTop (entryFrame m #[(.int p1)] 3)) t := by
      intro t kt
      refine pre3 t ?_
      show Steps p.tables e below (T2.setTop (mkF m 5 #[.val (.int p1), .val (.int (0 : Int32)), .unset] [])) _
      refine XS.iloadN X2.here hx rfl (hb hby d1_5) rfl ?_
      exact kt
    obtain ⟨T5, h5, k5, X5, e5, E5, A5, st5⟩ := newP X2 hx hZ (hw _ (List.mem_of_getElem? (i := 10) rfl)) e2 (g := (mkF m 6 #[.val (.int p1), .val (.int (0 : Int32)), .unset] [(.int (0 : Int32))])) rfl (hb hby d1_6) rfl (by decide) (cap := 0) (by decide) (by decide) (by decide) (by decide)
    obtain ⟨b5, g5⟩ : ∃ z, z = h0.size := ⟨_, rfl⟩
    have g_b5 : n0 ≤ b5 := Nat.le_trans Z0 (Nat.le_of_eq g5.symm)
    have sz_b5 : h0.size ≤ b5 := Nat.le_trans (Keep.refl h0 []).1 (Nat.le_of_eq g5.symm)
    rw [← g5] at A5 st5
    have K5 : Keep h0 h5 [] := (Keep.refl h0 []).ext E5
    have Z5 : n0 ≤ h5.size := Nat.le_trans Z0 E5.1
    have mo5_0 := Nat.le_trans (Nat.zero_le _) E5.1
    have CR5 := CR0.trans (CHr.ext E5 CR0.1)
    have ST_COMPACT_STRINGS_6 := ST_COMPACT_STRINGS.ext E5
    have V_b5 : Arv Z h5 b5 k5 .char (0 : Int32) [] (.int (0 : Int32)) := (Arv.new A5 (by decide)).pad (pad_rep [] (.int (0 : Int32)) 0)
    have pre5 : ∀ t, Steps p.tables e below (T5.setTop (mkF m 8 #[.val (.int p1), .val (.int (0 : Int32)), .unset] [(.ref b5)])) t → Steps p.tables e below (s₁.setTop (entryFrame m #[(.int p1)] 3)) t := fun t kt => pre4 t (st5 _ kt)
    have pre7 : ∀ t, Steps p.tables e below (T5.setTop (mkF m 50 #[.val (.int p1), .val (.int (0 : Int32)), .val (.ref b5)] [])) t → Steps p.tables e below (s₁.setTop (entryFrame m #[(.int p1)] 3)) t := by
      intro t kt
      refine pre5 t ?_
      show Steps p.tables e below (T5.setTop (mkF m 8 #[.val (.int p1), .val (.int (0 : Int32)), .unset] [(.ref b5)])) _
      refine XS.astoreN X5.here hx rfl (hb hby d1_8) rfl rfl (l' := #[.val (.int p1), .val (.int (0 : Int32)), .val (.ref b5)]) rfl ?_
      show Steps p.tables e below (T5.setTop (mkF m 9 #[.val (.int p1), .val (.int (0 : Int32)), .val (.ref b5)] [])) _
      refine XS.iloadN X5.here hx rfl (hb hby d1_9) rfl ?_
      show Steps p.tables e below (T5.setTop (mkF m 10 #[.val (.int p1), .val (.int (0 : Int32)), .val (.ref b5)] [(.int (0 : Int32))])) _
      refine XS.ifYes X5.here hx rfl (pc0 := 10) (pc' := 22) rfl (hb hby d1_10) rfl ((if0 _ _).trans (flt (by decide)).2.2.2) (by decide) (by decide) ?_
      show Steps p.tables e below (T5.setTop (mkF m 22 #[.val (.int p1), .val (.int (0 : Int32)), .val (.ref b5)] [])) _
      refine XS.iloadN X5.here hx rfl (hb hby d1_22) rfl ?_
      show Steps p.tables e below (T5.setTop (mkF m 23 #[.val (.int p1), .val (.int (0 : Int32)), .val (.ref b5)] [(.int (0 : Int32))])) _
      refine XS.iconst X5.here hx rfl (hb hby d1_23) ?_
      show Steps p.tables e below (T5.setTop (mkF m 24 #[.val (.int p1), .val (.int (0 : Int32)), .val (.ref b5)] [(.int (1 : Int32)), (.int (0 : Int32))])) _
      refine XS.icmpYes X5.here hx rfl (pc0 := 24) (pc' := 36) rfl (hb hby d1_24) rfl (flt (by decide)).2.2.2 (by decide) (by decide) ?_
      show Steps p.tables e below (T5.setTop (mkF m 36 #[.val (.int p1), .val (.int (0 : Int32)), .val (.ref b5)] [])) _
      refine XS.iloadN X5.here hx rfl (hb hby d1_36) rfl ?_
      show Steps p.tables e below (T5.setTop (mkF m 37 #[.val (.int p1), .val (.int (0 : Int32)), .val (.ref b5)] [(.int (0 : Int32))])) _
      refine XS.iconst X5.here hx rfl (hb hby d1_37) ?_
      show Steps p.tables e below (T5.setTop (mkF m 38 #[.val (.int p1), .val (.int (0 : Int32)), .val (.ref b5)] [(.int (2 : Int32)), (.int (0 : Int32))])) _
      refine XS.icmpYes X5.here hx rfl (pc0 := 38) (pc' := 50) rfl (hb hby d1_38) rfl (flt (by decide)).2.2.2 (by decide) (by decide) ?_
      exact kt
    obtain ⟨T8, h8, X8, e8, E8, A8, D8, -, st8⟩ := newO X5 hx hZ hown (hw _ (List.mem_of_getElem? (i := 11) rfl)) (hw _ (List.mem_of_getElem? (i := 12) rfl)) (hw _ (List.mem_of_getElem? (i := 13) rfl)) e5 (g := (mkF m 50 #[.val (.int p1), .val (.int (0 : Int32)), .val (.ref b5)] [])) rfl (hb hby d1_50) (by decide) (by decide)
    obtain ⟨b8, g8⟩ : ∃ z, z = h5.size := ⟨_, rfl⟩
    have ne_b5_b8 : b5 ≠ b8 := Nat.ne_of_lt (Nat.lt_of_lt_of_le V_b5.lt (Nat.le_of_eq g8.symm))
    have g_b8 : n0 ≤ b8 := Nat.le_trans Z5 (Nat.le_of_eq g8.symm)
    have sz_b8 : h0.size ≤ b8 := Nat.le_trans K5.1 (Nat.le_of_eq g8.symm)
    rw [← g8] at A8 D8 st8
    have K8 : Keep h0 h8 [] := K5.ext E8
    have Z8 : n0 ≤ h8.size := Nat.le_trans Z5 E8.1
    have mo8_0 := Nat.le_trans mo5_0 E8.1
    have CR8 := CR5.trans (CHr.ext E8 CR5.1)
    have ST_COMPACT_STRINGS_9 := ST_COMPACT_STRINGS_6.ext E8
    have V_b5_10 := V_b5.ext E8
    have F_value_b8 : Fld Z h8 b8 "java/lang/String" "value" "[B" .null := D8 (Or.inr (hw _ (List.mem_of_getElem? (i := 26) rfl))) (ty := (.array .byte)) (by decide)
    have F_coder_b8 : Fld Z h8 b8 "java/lang/String" "coder" "B" (.int (0 : Int32)) := D8 (Or.inr (hw _ (List.mem_of_getElem? (i := 27) rfl))) (ty := .byte) (by decide)
    have pre8 : ∀ t, Steps p.tables e below (T8.setTop (mkF m 53 #[.val (.int p1), .val (.int (0 : Int32)), .val (.ref b5)] [(.ref b8)])) t → Steps p.tables e below (s₁.setTop (entryFrame m #[(.int p1)] 3)) t := fun t kt => pre7 t (st8 _ kt)
    have pre11 : ∀ t, Steps p.tables e below (T8.setTop (mkF m 55 #[.val (.int p1), .val (.int (0 : Int32)), .val (.ref b5)] [(.ref b5), (.ref b8), (.ref b8)])) t → Steps p.tables e below (s₁.setTop (entryFrame m #[(.int p1)] 3)) t := by
      intro t kt
      refine pre8 t ?_
      show Steps p.tables e below (T8.setTop (mkF m 53 #[.val (.int p1), .val (.int (0 : Int32)), .val (.ref b5)] [(.ref b8)])) _
      refine XS.dup X8.here hx rfl (hb hby d1_53) rfl rfl ?_
      show Steps p.tables e below (T8.setTop (mkF m 54 #[.val (.int p1), .val (.int (0 : Int32)), .val (.ref b5)] [(.ref b8), (.ref b8)])) _
      refine XS.aloadN X8.here hx rfl (hb hby d1_54) rfl rfl ?_
      exact kt
    obtain ⟨_, _, ⟨T12, L12, k12, n12⟩, -, X12, hSq12, hgq12, ⟨Lc12, hQ12, l12, y12, z12, CQ12⟩, st12⟩ := X8.specialBackS (s := s.setVm s.vm) hx (y := (⟨"java/lang/String", "<init>", "([C)V"⟩ : MethodName)) rfl hown (mvT hZ (hw _ (List.mem_of_getElem? (i := 14) rfl))) (mvT hZ (hw _ (List.mem_of_getElem? (i := 15) rfl))) (mvT hZ (hw _ (List.mem_of_getElem? (i := 16) rfl))) (by decide) (backOfSH (s := s) (vm0 := s.vm) (W := 1) (rm3 l Z a0 hw [] b8 b5 k5 h8 n0 Z8 A8 F_value_b8 F_coder_b8 V_b5_10 g_b8 (Ne.symm ne_b5_b8)) hZ (hw _ (List.mem_of_getElem? (i := 16) rfl)) (hw _ (List.mem_of_getElem? (i := 13) rfl)) (by decide) (by decide) hEL CR8.1) (g := (mkF m 55 #[.val (.int p1), .val (.int (0 : Int32)), .val (.ref b5)] [(.ref b5), (.ref b8), (.ref b8)])) rfl (by rw [hml]; rfl) (Steps.refl _) (a := b8) (argsL := [(.ref b5)]) (rest := [(.ref b8)]) (lenOf pd_2 rfl) rfl (by show 2 * 0 + _ ≤ _; exact Nat.le_of_eq rfl) (hb hby d1_55) (fun _ _ => ⟨rfl, e8, (by decide : 2 + 4 ≤ _), (by decide : 4 + 8 ≤ _)⟩)
    dsimp only [Pt.U, Pt.locs, Pt.cells, Pt.slots] at X12 l12 y12 z12 st12 hQ12
    subst l12 y12 z12
    have hS12 := foldS hS0 (by rw [e8]; exact mo8_0) hSq12 hgq12
    have hown := show T12.vm.findClass _ = some m.cls from (by rw [hSq12.1.alike.findClass]; exact hown)
    have hZ := State.Warmed39.trans (t := s.setVm s.vm) hZ hSq12.1
    have CR12 := CR8.trans CQ12
    obtain ⟨tz_12, kz_12, rfl, N12q, KC12, P12_0, P12_1, P12_2, P12_3⟩ := hQ12
    have N12 := Fr.app N2 N12q
    have Z12 : n0 ≤ T12.heap.size := Nat.le_trans Z8 KC12.1
    have mo12_0 := Nat.le_trans mo8_0 KC12.1
    have K12 : Keep h0 T12.heap [] := K8.trans KC12 (allS (Or.inr sz_b8) all0)
    have ST_COMPACT_STRINGS_13 := own_stak ST_COMPACT_STRINGS_9 KC12 (nsS A8.nostat ns0)
    have V_b5_14 := V_b5_10.keep KC12 (ninS ne_b5_b8 nin0)
    have A8_15 := A8.keep KC12
    have E_b8_12 : Exa Z T12.heap b8 "java/lang/String" := P12_0
    have F_value_b8_12 : Fld Z T12.heap b8 "java/lang/String" "value" "[B" (.ref tz_12) := P12_1
    have F_coder_b8_12 : Fld Z T12.heap b8 "java/lang/String" "coder" "B" (.int (0 : Int32)) := P12_2
    have V_tz_12_12 : Arv Z T12.heap tz_12 kz_12 .byte (0 : Int32) ((own_cs24.map fun c => c.toInt8.toInt32).map Value.int) (.int (0 : Int32)) := P12_3
    have pre12 : ∀ t, Steps p.tables e below (T12.setTop (mkF m 58 #[.val (.int p1), .val (.int (0 : Int32)), .val (.ref b5)] [(.ref b8)])) t → Steps p.tables e below (s₁.setTop (entryFrame m #[(.int p1)] 3)) t := fun t kt => pre11 t (st12.trans kt)
    have VF : Arv Z T12.heap tz_12 kz_12 .byte (own_f2 p1) (((own_str p1).map fun c => c.toInt8.toInt32).map Value.int) (.int (0 : Int32)) := by
      rw [hl]; unfold own_str; rw [if_pos hl]
      exact V_tz_12_12
    obtain ⟨fs, hr, hrun, hended, hEnd⟩ := X12.leaveW (s := s) (vm₁ := T12.vm) hS12 (Nat.le_refl T12.heap.size) (v := some (.ref b8)) (fun h => by rw [Bd.returns] at h; cases h)
    refine ⟨_, _, pre12 _ ?_, hrun, hended, _, _, rfl, ?_, (by rw [hh]; exact CR12.trans (by rw [show (T12.setFrames fs).heap = T12.heap from rfl]; exact (show CHr Z EL T12.vm T12.heap T12.vm T12.heap from CHv.at (s := s) (vm0 := T12.vm) X12 hZ hEL CR12.1))), hEnd.1, hEnd.2.1, hEnd.2.2.1, hEnd.2.2.2.mono (by decide) (by decide)⟩
    · show Steps p.tables e below (T12.setTop (mkF m 58 #[.val (.int p1), .val (.int (0 : Int32)), .val (.ref b5)] [(.ref b8)])) _
      jvm_step X12.here [X12.here.top, hx, (hb hby d1_58), X12.method', Bd.returns, Value.isRef, FieldType.isReference]
      first | (intro acts; rw [hr _ acts rfl rfl rfl]) | rw [hr _ _ rfl rfl rfl]
      exact Steps.refl _
    · show Qrm1 Z p1 cz h0 n0 _ T12.heap _
      exact ⟨b8, tz_12, kz_12, rfl, N12, K12, E_b8_12, F_value_b8_12, F_coder_b8_12, VF, g_b8, sz_b8⟩
  · rw [hl] at pre3
    have pre18 : ∀ t, Steps p.tables e below (T2.setTop (mkF m 6 #[.val (.int p1), .val (.int (1 : Int32)), .unset] [(.int (1 : Int32))])) t → Steps p.tables e below (s₁.setTop (entryFrame m #[(.int p1)] 3)) t := by
      intro t kt
      refine pre3 t ?_
      show Steps p.tables e below (T2.setTop (mkF m 5 #[.val (.int p1), .val (.int (1 : Int32)), .unset] [])) _
      refine XS.iloadN X2.here hx rfl (hb hby d1_5) rfl ?_
      exact kt
    obtain ⟨T19, h19, k19, X19, e19, E19, A19, st19⟩ := newP X2 hx hZ (hw _ (List.mem_of_getElem? (i := 10) rfl)) e2 (g := (mkF m 6 #[.val (.int p1), .val (.int (1 : Int32)), .unset] [(.int (1 : Int32))])) rfl (hb hby d1_6) rfl (by decide) (cap := 1) (by decide) (by decide) (by decide) (by decide)
    obtain ⟨b19, g19⟩ : ∃ z, z = h0.size := ⟨_, rfl⟩
    have g_b19 : n0 ≤ b19 := Nat.le_trans Z0 (Nat.le_of_eq g19.symm)
    have sz_b19 : h0.size ≤ b19 := Nat.le_trans (Keep.refl h0 []).1 (Nat.le_of_eq g19.symm)
    rw [← g19] at A19 st19
    have K19 : Keep h0 h19 [] := (Keep.refl h0 []).ext E19
    have Z19 : n0 ≤ h19.size := Nat.le_trans Z0 E19.1
    have mo19_0 := Nat.le_trans (Nat.zero_le _) E19.1
    have CR19 := CR0.trans (CHr.ext E19 CR0.1)
    have ST_COMPACT_STRINGS_20 := ST_COMPACT_STRINGS.ext E19
    have V_b19 : Arv Z h19 b19 k19 .char (1 : Int32) [(.int (0 : Int32))] (.int (0 : Int32)) := (Arv.new A19 (by decide)).pad (pad_rep [] (.int (0 : Int32)) 1)
    have pre19 : ∀ t, Steps p.tables e below (T19.setTop (mkF m 8 #[.val (.int p1), .val (.int (1 : Int32)), .unset] [(.ref b19)])) t → Steps p.tables e below (s₁.setTop (entryFrame m #[(.int p1)] 3)) t := fun t kt => pre18 t (st19 _ kt)
    have pre21 : ∀ t, Steps p.tables e below (T19.setTop (mkF m 17 #[.val (.int p1), .val (.int (1 : Int32)), .val (.ref b19)] [(.int (0 : Int32)), (.int p1), (.int (0 : Int32)), (.ref b19)])) t → Steps p.tables e below (s₁.setTop (entryFrame m #[(.int p1)] 3)) t := by
      intro t kt
      refine pre19 t ?_
      show Steps p.tables e below (T19.setTop (mkF m 8 #[.val (.int p1), .val (.int (1 : Int32)), .unset] [(.ref b19)])) _
      refine XS.astoreN X19.here hx rfl (hb hby d1_8) rfl rfl (l' := #[.val (.int p1), .val (.int (1 : Int32)), .val (.ref b19)]) rfl ?_
      show Steps p.tables e below (T19.setTop (mkF m 9 #[.val (.int p1), .val (.int (1 : Int32)), .val (.ref b19)] [])) _
      refine XS.iloadN X19.here hx rfl (hb hby d1_9) rfl ?_
      show Steps p.tables e below (T19.setTop (mkF m 10 #[.val (.int p1), .val (.int (1 : Int32)), .val (.ref b19)] [(.int (1 : Int32))])) _
      refine XS.ifNo X19.here hx rfl (hb hby d1_10) rfl ((if0 _ _).trans (tlt (by decide)).2.2.2) ?_
      show Steps p.tables e below (T19.setTop (mkF m 13 #[.val (.int p1), .val (.int (1 : Int32)), .val (.ref b19)] [])) _
      refine XS.aloadN X19.here hx rfl (hb hby d1_13) rfl rfl ?_
      show Steps p.tables e below (T19.setTop (mkF m 14 #[.val (.int p1), .val (.int (1 : Int32)), .val (.ref b19)] [(.ref b19)])) _
      refine XS.iconst X19.here hx rfl (hb hby d1_14) ?_
      show Steps p.tables e below (T19.setTop (mkF m 15 #[.val (.int p1), .val (.int (1 : Int32)), .val (.ref b19)] [(.int (0 : Int32)), (.ref b19)])) _
      refine XS.iloadN X19.here hx rfl (hb hby d1_15) rfl ?_
      show Steps p.tables e below (T19.setTop (mkF m 16 #[.val (.int p1), .val (.int (1 : Int32)), .val (.ref b19)] [(.int p1), (.int (0 : Int32)), (.ref b19)])) _
      refine XS.iconst X19.here hx rfl (hb hby d1_16) ?_
      exact kt
    obtain ⟨_, _, ⟨T22, L22, k22, n22⟩, -, X22, ⟨Lc22, hQ22, l22, y22, z22⟩, st22⟩ := Jvm.LawKit.callS X19 hx (y := (⟨"com/example/vertumnus/vertumnus/TableNameEqualsPinLaw", "ch", "(II)I"⟩ : MethodName)) hown (mvT hZ (hw _ (List.mem_of_getElem? (i := 32) rfl))) (mvT hZ (hw _ (List.mem_of_getElem? (i := 33) rfl))) (mvT hZ (hw _ (List.mem_of_getElem? (i := 5) rfl))) (mvT hZ (hw _ (List.mem_of_getElem? (i := 34) rfl))) (by decide) (backOf (W := 2) (rm6 l Z a0 hw [] p1 (0 : Int32) h19 n0) hZ (hw _ (List.mem_of_getElem? (i := 34) rfl)) (hw _ (List.mem_of_getElem? (i := 5) rfl)) (by decide) (by decide)) (g := (mkF m 17 #[.val (.int p1), .val (.int (1 : Int32)), .val (.ref b19)] [(.int (0 : Int32)), (.int p1), (.int (0 : Int32)), (.ref b19)])) rfl (by rw [hml]; rfl) (argsL := [(.int p1), (.int (0 : Int32))]) (rest := [(.int (0 : Int32)), (.ref b19)]) (lenOf pd_3 rfl) rfl (by show 2 * 0 + _ ≤ _; exact Nat.le_of_eq rfl) (hb hby d1_17) (fun _ _ => ⟨rfl, e19, (by decide : 1 + 0 ≤ _), (by decide : 1 + 0 ≤ _)⟩)
    dsimp only [Pt.U, Pt.locs, Pt.cells, Pt.slots] at X22 l22 y22 z22 st22 hQ22
    subst l22 y22 z22
    obtain ⟨rfl, N22q, e22⟩ := hQ22
    have N22 := Fr.app N2 N22q
    have pre22 : ∀ t, Steps p.tables e below (T22.setTop (mkF m 20 #[.val (.int p1), .val (.int (1 : Int32)), .val (.ref b19)] [(.int (own_f6 p1 (0 : Int32))), (.int (0 : Int32)), (.ref b19)])) t → Steps p.tables e below (s₁.setTop (entryFrame m #[(.int p1)] 3)) t := fun t kt => pre21 t (st22 _ kt)
    have pre23 : ∀ t, Steps p.tables e below (T22.setTop (mkF m 21 #[.val (.int p1), .val (.int (1 : Int32)), .val (.ref b19)] [(.int ((own_f6 p1 (0 : Int32)).toUInt32.toUInt16.toUInt32.toInt32)), (.int (0 : Int32)), (.ref b19)])) t → Steps p.tables e below (s₁.setTop (entryFrame m #[(.int p1)] 3)) t := by
      intro t kt
      refine pre22 t ?_
      show Steps p.tables e below (T22.setTop (mkF m 20 #[.val (.int p1), .val (.int (1 : Int32)), .val (.ref b19)] [(.int (own_f6 p1 (0 : Int32))), (.int (0 : Int32)), (.ref b19)])) _
      refine XS.i2c X22.here hx rfl (hb hby d1_20) rfl ?_
      exact kt
    obtain ⟨cl24, Ar24, q24, S24, M24, H24, G24⟩ := (id V_b19)
    have hin24 : ¬ ((0 : Int32) < 0 ∨ cl24.slots.size ≤ ((0 : Int32)).toNatClampNeg) := inb_of S24 ⟨by decide, by decide⟩
    obtain ⟨T24, h24, X24, e24, W24, st24⟩ := stC X22 hx hZ e22 Ar24 (j := (0 : Int32)) hin24 (g := (mkF m 21 #[.val (.int p1), .val (.int (1 : Int32)), .val (.ref b19)] [(.int ((own_f6 p1 (0 : Int32)).toUInt32.toUInt16.toUInt32.toInt32)), (.int (0 : Int32)), (.ref b19)])) rfl rfl (hb hby d1_21)
    have V_b19_24 := Arv.set Ar24 q24 S24 M24 H24 G24 (fits_nar_char _) W24 0 rfl (Nat.le_of_ble_eq_true rfl)
    have N24 := Fr.snoc X24 N22 g_b19
    have K24 : Keep h0 h24 [] := K19.wr W24 (Or.inr sz_b19)
    have Z24 : n0 ≤ h24.size := Nat.le_trans Z19 (Keep.of_wr W24).1
    have mo24_0 := Nat.le_trans mo19_0 (Keep.of_wr W24).1
    have CR24 := CR19.trans (CHr.wr W24 (Safe.arv (hZ.alike) V_b19 (by decide)) CR19.1)
    have ST_COMPACT_STRINGS_25 := ST_COMPACT_STRINGS_20.wr W24
    have V_b19_24' : Arv Z h24 b19 k19 .char (1 : Int32) [(.int (nar .char ((own_f6 p1 (0 : Int32)).toUInt32.toUInt16.toUInt32.toInt32)))] (.int (0 : Int32)) := V_b19_24
    have pre24 : ∀ t, Steps p.tables e below (T24.setTop (mkF m 22 #[.val (.int p1), .val (.int (1 : Int32)), .val (.ref b19)] [])) t → Steps p.tables e below (s₁.setTop (entryFrame m #[(.int p1)] 3)) t := fun t kt => pre23 t (st24 _ kt)
    have pre27 : ∀ t, Steps p.tables e below (T24.setTop (mkF m 50 #[.val (.int p1), .val (.int (1 : Int32)), .val (.ref b19)] [])) t → Steps p.tables e below (s₁.setTop (entryFrame m #[(.int p1)] 3)) t := by
      intro t kt
      refine pre24 t ?_
      show Steps p.tables e below (T24.setTop (mkF m 22 #[.val (.int p1), .val (.int (1 : Int32)), .val (.ref b19)] [])) _
      refine XS.iloadN X24.here hx rfl (hb hby d1_22) rfl ?_
      show Steps p.tables e below (T24.setTop (mkF m 23 #[.val (.int p1), .val (.int (1 : Int32)), .val (.ref b19)] [(.int (1 : Int32))])) _
      refine XS.iconst X24.here hx rfl (hb hby d1_23) ?_
      show Steps p.tables e below (T24.setTop (mkF m 24 #[.val (.int p1), .val (.int (1 : Int32)), .val (.ref b19)] [(.int (1 : Int32)), (.int (1 : Int32))])) _
      refine XS.icmpYes X24.here hx rfl (pc0 := 24) (pc' := 36) rfl (hb hby d1_24) rfl (flt (by decide)).2.2.2 (by decide) (by decide) ?_
      show Steps p.tables e below (T24.setTop (mkF m 36 #[.val (.int p1), .val (.int (1 : Int32)), .val (.ref b19)] [])) _
      refine XS.iloadN X24.here hx rfl (hb hby d1_36) rfl ?_
      show Steps p.tables e below (T24.setTop (mkF m 37 #[.val (.int p1), .val (.int (1 : Int32)), .val (.ref b19)] [(.int (1 : Int32))])) _
      refine XS.iconst X24.here hx rfl (hb hby d1_37) ?_
      show Steps p.tables e below (T24.setTop (mkF m 38 #[.val (.int p1), .val (.int (1 : Int32)), .val (.ref b19)] [(.int (2 : Int32)), (.int (1 : Int32))])) _
      refine XS.icmpYes X24.here hx rfl (pc0 := 38) (pc' := 50) rfl (hb hby d1_38) rfl (flt (by decide)).2.2.2 (by decide) (by decide) ?_
      exact kt
    obtain ⟨T28, h28, X28, e28, E28, A28, D28, -, st28⟩ := newO X24 hx hZ hown (hw _ (List.mem_of_getElem? (i := 11) rfl)) (hw _ (List.mem_of_getElem? (i := 12) rfl)) (hw _ (List.mem_of_getElem? (i := 13) rfl)) e24 (g := (mkF m 50 #[.val (.int p1), .val (.int (1 : Int32)), .val (.ref b19)] [])) rfl (hb hby d1_50) (by decide) (by decide)
    obtain ⟨b28, g28⟩ : ∃ z, z = h24.size := ⟨_, rfl⟩
    have ne_b19_b28 : b19 ≠ b28 := Nat.ne_of_lt (Nat.lt_of_lt_of_le V_b19_24'.lt (Nat.le_of_eq g28.symm))
    have g_b28 : n0 ≤ b28 := Nat.le_trans Z24 (Nat.le_of_eq g28.symm)
    have sz_b28 : h0.size ≤ b28 := Nat.le_trans K24.1 (Nat.le_of_eq g28.symm)
    rw [← g28] at A28 D28 st28
    have K28 : Keep h0 h28 [] := K24.ext E28
    have Z28 : n0 ≤ h28.size := Nat.le_trans Z24 E28.1
    have mo28_0 := Nat.le_trans mo24_0 E28.1
    have CR28 := CR24.trans (CHr.ext E28 CR24.1)
    have ST_COMPACT_STRINGS_29 := ST_COMPACT_STRINGS_25.ext E28
    have V_b19_30 := V_b19_24'.ext E28
    have F_value_b28 : Fld Z h28 b28 "java/lang/String" "value" "[B" .null := D28 (Or.inr (hw _ (List.mem_of_getElem? (i := 26) rfl))) (ty := (.array .byte)) (by decide)
    have F_coder_b28 : Fld Z h28 b28 "java/lang/String" "coder" "B" (.int (0 : Int32)) := D28 (Or.inr (hw _ (List.mem_of_getElem? (i := 27) rfl))) (ty := .byte) (by decide)
    have pre28 : ∀ t, Steps p.tables e below (T28.setTop (mkF m 53 #[.val (.int p1), .val (.int (1 : Int32)), .val (.ref b19)] [(.ref b28)])) t → Steps p.tables e below (s₁.setTop (entryFrame m #[(.int p1)] 3)) t := fun t kt => pre27 t (st28 _ kt)
    have pre31 : ∀ t, Steps p.tables e below (T28.setTop (mkF m 55 #[.val (.int p1), .val (.int (1 : Int32)), .val (.ref b19)] [(.ref b19), (.ref b28), (.ref b28)])) t → Steps p.tables e below (s₁.setTop (entryFrame m #[(.int p1)] 3)) t := by
      intro t kt
      refine pre28 t ?_
      show Steps p.tables e below (T28.setTop (mkF m 53 #[.val (.int p1), .val (.int (1 : Int32)), .val (.ref b19)] [(.ref b28)])) _
      refine XS.dup X28.here hx rfl (hb hby d1_53) rfl rfl ?_
      show Steps p.tables e below (T28.setTop (mkF m 54 #[.val (.int p1), .val (.int (1 : Int32)), .val (.ref b19)] [(.ref b28), (.ref b28)])) _
      refine XS.aloadN X28.here hx rfl (hb hby d1_54) rfl rfl ?_
      exact kt
    have VS32 : Arv Z h28 b19 k19 .char (1 : Int32) (([own_f6 p1 0] : List Int32).map Value.int) (.int (0 : Int32)) := by
      have q := V_b19_30
      simp only [own_cn] at q
      exact q
    have hcs32 : ∀ c ∈ ([own_f6 p1 0] : List Int32), ¬ c < 0 ∧ ¬ (255 : Int32) < c := fun c hc => by
      simp only [List.mem_cons, List.not_mem_nil, or_false] at hc
      subst hc; exact own_ch _ _
    have sfb32 : Safe Z EL s.vm h28 b28 := (own_safeNull (hZ.alike) A28 F_value_b28)
    obtain ⟨_, _, ⟨T32, L32, k32, n32⟩, -, X32, ⟨Lc32, hQ32, l32, y32, z32⟩, st32⟩ := X28.specialBack hx (y := (⟨"java/lang/String", "<init>", "([C)V"⟩ : MethodName)) rfl hown (mvT hZ (hw _ (List.mem_of_getElem? (i := 14) rfl))) (mvT hZ (hw _ (List.mem_of_getElem? (i := 15) rfl))) (mvT hZ (hw _ (List.mem_of_getElem? (i := 16) rfl))) (by decide) (StrChars.Road.backV (W := 1) hZ hws (kI := 4) (hw _ (List.mem_of_getElem? (i := 12) rfl)) (cs := [own_f6 p1 0]) (bs := ([own_f6 p1 0] : List Int32).map (fun c => c.toInt8.toInt32)) (n := 1) g_b28 Z28 A28 F_value_b28 F_coder_b28 VS32 ST_COMPACT_STRINGS_29 hCS rfl rfl (by decide) (by decide) hcs32 rfl (by decide) (by decide)) (g := (mkF m 55 #[.val (.int p1), .val (.int (1 : Int32)), .val (.ref b19)] [(.ref b19), (.ref b28), (.ref b28)])) rfl (by rw [hml]; rfl) (Steps.refl _) (a := b28) (argsL := [(.ref b19)]) (rest := [(.ref b28)]) (lenOf pd_2 rfl) rfl (by show 2 * 0 + _ ≤ _; exact Nat.le_of_eq rfl) (hb hby d1_55) (fun _ _ => ⟨rfl, e28, (by decide : 2 + 1 ≤ _), (by decide : 5 + 1 ≤ _)⟩)
    dsimp only [Pt.U, Pt.locs, Pt.cells, Pt.slots] at X32 l32 y32 z32 st32 hQ32
    subst l32 y32 z32
    obtain ⟨rfl, N32q, KC32, EQ32, CQ32, tq32, kbq32, gq32, gr32, gs32, FQ32, VQ32⟩ := hQ32
    have N32 := Fr.app N24 N32q
    have Z32 : n0 ≤ T32.heap.size := Nat.le_trans Z28 KC32.1
    have mo32_0 := Nat.le_trans mo28_0 KC32.1
    have CR32 := CR28.trans (CHr.keep KC32 (sfS sfb32 sf0) CR28.1)
    have K32 : Keep h0 T32.heap [] := K28.trans KC32 (allS (Or.inr sz_b28) all0)
    have ST_COMPACT_STRINGS_33 := own_stak ST_COMPACT_STRINGS_29 KC32 (nsS A28.nostat ns0)
    have V_b19_34 := V_b19_30.keep KC32 (ninS ne_b19_b28 nin0)
    have A28_35 := A28.keep KC32
    have pre32 : ∀ t, Steps p.tables e below (T32.setTop (mkF m 58 #[.val (.int p1), .val (.int (1 : Int32)), .val (.ref b19)] [(.ref b28)])) t → Steps p.tables e below (s₁.setTop (entryFrame m #[(.int p1)] 3)) t := fun t kt => pre31 t (st32.trans kt)
    have VF : Arv Z T32.heap tq32 kbq32 .byte (own_f2 p1) (((own_str p1).map fun c => c.toInt8.toInt32).map Value.int) (.int (0 : Int32)) := by
      rw [hl]; unfold own_str; rw [if_neg (show ¬ own_f2 p1 = 0 by rw [hl]; decide), if_pos hl]
      exact VQ32
    obtain ⟨fs, hr, hrun, hended, hEnd⟩ := X32.leaveW (s := s) (vm₁ := s.vm) hS0 mo32_0 (v := some (.ref b28)) (fun h => by rw [Bd.returns] at h; cases h)
    refine ⟨_, _, pre32 _ ?_, hrun, hended, _, _, rfl, ?_, (by rw [hh]; exact CR32.trans (by rw [show (T32.setFrames fs).heap = T32.heap from rfl]; exact (show CHr Z EL s.vm T32.heap T32.vm T32.heap from CHv.at (s := s) (vm0 := s.vm) X32 hZ hEL CR32.1))), hEnd.1, hEnd.2.1, hEnd.2.2.1, hEnd.2.2.2.mono (by decide) (by decide)⟩
    · show Steps p.tables e below (T32.setTop (mkF m 58 #[.val (.int p1), .val (.int (1 : Int32)), .val (.ref b19)] [(.ref b28)])) _
      jvm_step X32.here [X32.here.top, hx, (hb hby d1_58), X32.method', Bd.returns, Value.isRef, FieldType.isReference]
      first | (intro acts; rw [hr _ acts rfl rfl rfl]) | rw [hr _ _ rfl rfl rfl]
      exact Steps.refl _
    · show Qrm1 Z p1 cz h0 n0 _ T32.heap _
      exact ⟨b28, tq32, kbq32, rfl, N32, K32, EQ32, FQ32, CQ32, VF, g_b28, sz_b28⟩
  · rw [hl] at pre3
    have pre38 : ∀ t, Steps p.tables e below (T2.setTop (mkF m 6 #[.val (.int p1), .val (.int (2 : Int32)), .unset] [(.int (2 : Int32))])) t → Steps p.tables e below (s₁.setTop (entryFrame m #[(.int p1)] 3)) t := by
      intro t kt
      refine pre3 t ?_
      show Steps p.tables e below (T2.setTop (mkF m 5 #[.val (.int p1), .val (.int (2 : Int32)), .unset] [])) _
      refine XS.iloadN X2.here hx rfl (hb hby d1_5) rfl ?_
      exact kt
    obtain ⟨T39, h39, k39, X39, e39, E39, A39, st39⟩ := newP X2 hx hZ (hw _ (List.mem_of_getElem? (i := 10) rfl)) e2 (g := (mkF m 6 #[.val (.int p1), .val (.int (2 : Int32)), .unset] [(.int (2 : Int32))])) rfl (hb hby d1_6) rfl (by decide) (cap := 2) (by decide) (by decide) (by decide) (by decide)
    obtain ⟨b39, g39⟩ : ∃ z, z = h0.size := ⟨_, rfl⟩
    have g_b39 : n0 ≤ b39 := Nat.le_trans Z0 (Nat.le_of_eq g39.symm)
    have sz_b39 : h0.size ≤ b39 := Nat.le_trans (Keep.refl h0 []).1 (Nat.le_of_eq g39.symm)
    rw [← g39] at A39 st39
    have K39 : Keep h0 h39 [] := (Keep.refl h0 []).ext E39
    have Z39 : n0 ≤ h39.size := Nat.le_trans Z0 E39.1
    have mo39_0 := Nat.le_trans (Nat.zero_le _) E39.1
    have CR39 := CR0.trans (CHr.ext E39 CR0.1)
    have ST_COMPACT_STRINGS_40 := ST_COMPACT_STRINGS.ext E39
    have V_b39 : Arv Z h39 b39 k39 .char (2 : Int32) [(.int (0 : Int32)), (.int (0 : Int32))] (.int (0 : Int32)) := (Arv.new A39 (by decide)).pad (pad_rep [] (.int (0 : Int32)) 2)
    have pre39 : ∀ t, Steps p.tables e below (T39.setTop (mkF m 8 #[.val (.int p1), .val (.int (2 : Int32)), .unset] [(.ref b39)])) t → Steps p.tables e below (s₁.setTop (entryFrame m #[(.int p1)] 3)) t := fun t kt => pre38 t (st39 _ kt)
    have pre41 : ∀ t, Steps p.tables e below (T39.setTop (mkF m 17 #[.val (.int p1), .val (.int (2 : Int32)), .val (.ref b39)] [(.int (0 : Int32)), (.int p1), (.int (0 : Int32)), (.ref b39)])) t → Steps p.tables e below (s₁.setTop (entryFrame m #[(.int p1)] 3)) t := by
      intro t kt
      refine pre39 t ?_
      show Steps p.tables e below (T39.setTop (mkF m 8 #[.val (.int p1), .val (.int (2 : Int32)), .unset] [(.ref b39)])) _
      refine XS.astoreN X39.here hx rfl (hb hby d1_8) rfl rfl (l' := #[.val (.int p1), .val (.int (2 : Int32)), .val (.ref b39)]) rfl ?_
      show Steps p.tables e below (T39.setTop (mkF m 9 #[.val (.int p1), .val (.int (2 : Int32)), .val (.ref b39)] [])) _
      refine XS.iloadN X39.here hx rfl (hb hby d1_9) rfl ?_
      show Steps p.tables e below (T39.setTop (mkF m 10 #[.val (.int p1), .val (.int (2 : Int32)), .val (.ref b39)] [(.int (2 : Int32))])) _
      refine XS.ifNo X39.here hx rfl (hb hby d1_10) rfl ((if0 _ _).trans (tlt (by decide)).2.2.2) ?_
      show Steps p.tables e below (T39.setTop (mkF m 13 #[.val (.int p1), .val (.int (2 : Int32)), .val (.ref b39)] [])) _
      refine XS.aloadN X39.here hx rfl (hb hby d1_13) rfl rfl ?_
      show Steps p.tables e below (T39.setTop (mkF m 14 #[.val (.int p1), .val (.int (2 : Int32)), .val (.ref b39)] [(.ref b39)])) _
      refine XS.iconst X39.here hx rfl (hb hby d1_14) ?_
      show Steps p.tables e below (T39.setTop (mkF m 15 #[.val (.int p1), .val (.int (2 : Int32)), .val (.ref b39)] [(.int (0 : Int32)), (.ref b39)])) _
      refine XS.iloadN X39.here hx rfl (hb hby d1_15) rfl ?_
      show Steps p.tables e below (T39.setTop (mkF m 16 #[.val (.int p1), .val (.int (2 : Int32)), .val (.ref b39)] [(.int p1), (.int (0 : Int32)), (.ref b39)])) _
      refine XS.iconst X39.here hx rfl (hb hby d1_16) ?_
      exact kt
    obtain ⟨_, _, ⟨T42, L42, k42, n42⟩, -, X42, ⟨Lc42, hQ42, l42, y42, z42⟩, st42⟩ := Jvm.LawKit.callS X39 hx (y := (⟨"com/example/vertumnus/vertumnus/TableNameEqualsPinLaw", "ch", "(II)I"⟩ : MethodName)) hown (mvT hZ (hw _ (List.mem_of_getElem? (i := 32) rfl))) (mvT hZ (hw _ (List.mem_of_getElem? (i := 33) rfl))) (mvT hZ (hw _ (List.mem_of_getElem? (i := 5) rfl))) (mvT hZ (hw _ (List.mem_of_getElem? (i := 34) rfl))) (by decide) (backOf (W := 2) (rm6 l Z a0 hw [] p1 (0 : Int32) h39 n0) hZ (hw _ (List.mem_of_getElem? (i := 34) rfl)) (hw _ (List.mem_of_getElem? (i := 5) rfl)) (by decide) (by decide)) (g := (mkF m 17 #[.val (.int p1), .val (.int (2 : Int32)), .val (.ref b39)] [(.int (0 : Int32)), (.int p1), (.int (0 : Int32)), (.ref b39)])) rfl (by rw [hml]; rfl) (argsL := [(.int p1), (.int (0 : Int32))]) (rest := [(.int (0 : Int32)), (.ref b39)]) (lenOf pd_3 rfl) rfl (by show 2 * 0 + _ ≤ _; exact Nat.le_of_eq rfl) (hb hby d1_17) (fun _ _ => ⟨rfl, e39, (by decide : 1 + 0 ≤ _), (by decide : 2 + 0 ≤ _)⟩)
    dsimp only [Pt.U, Pt.locs, Pt.cells, Pt.slots] at X42 l42 y42 z42 st42 hQ42
    subst l42 y42 z42
    obtain ⟨rfl, N42q, e42⟩ := hQ42
    have N42 := Fr.app N2 N42q
    have pre42 : ∀ t, Steps p.tables e below (T42.setTop (mkF m 20 #[.val (.int p1), .val (.int (2 : Int32)), .val (.ref b39)] [(.int (own_f6 p1 (0 : Int32))), (.int (0 : Int32)), (.ref b39)])) t → Steps p.tables e below (s₁.setTop (entryFrame m #[(.int p1)] 3)) t := fun t kt => pre41 t (st42 _ kt)
    have pre43 : ∀ t, Steps p.tables e below (T42.setTop (mkF m 21 #[.val (.int p1), .val (.int (2 : Int32)), .val (.ref b39)] [(.int ((own_f6 p1 (0 : Int32)).toUInt32.toUInt16.toUInt32.toInt32)), (.int (0 : Int32)), (.ref b39)])) t → Steps p.tables e below (s₁.setTop (entryFrame m #[(.int p1)] 3)) t := by
      intro t kt
      refine pre42 t ?_
      show Steps p.tables e below (T42.setTop (mkF m 20 #[.val (.int p1), .val (.int (2 : Int32)), .val (.ref b39)] [(.int (own_f6 p1 (0 : Int32))), (.int (0 : Int32)), (.ref b39)])) _
      refine XS.i2c X42.here hx rfl (hb hby d1_20) rfl ?_
      exact kt
    obtain ⟨cl44, Ar44, q44, S44, M44, H44, G44⟩ := (id V_b39)
    have hin44 : ¬ ((0 : Int32) < 0 ∨ cl44.slots.size ≤ ((0 : Int32)).toNatClampNeg) := inb_of S44 ⟨by decide, by decide⟩
    obtain ⟨T44, h44, X44, e44, W44, st44⟩ := stC X42 hx hZ e42 Ar44 (j := (0 : Int32)) hin44 (g := (mkF m 21 #[.val (.int p1), .val (.int (2 : Int32)), .val (.ref b39)] [(.int ((own_f6 p1 (0 : Int32)).toUInt32.toUInt16.toUInt32.toInt32)), (.int (0 : Int32)), (.ref b39)])) rfl rfl (hb hby d1_21)
    have V_b39_44 := Arv.set Ar44 q44 S44 M44 H44 G44 (fits_nar_char _) W44 0 rfl (Nat.le_of_ble_eq_true rfl)
    have N44 := Fr.snoc X44 N42 g_b39
    have K44 : Keep h0 h44 [] := K39.wr W44 (Or.inr sz_b39)
    have Z44 : n0 ≤ h44.size := Nat.le_trans Z39 (Keep.of_wr W44).1
    have mo44_0 := Nat.le_trans mo39_0 (Keep.of_wr W44).1
    have CR44 := CR39.trans (CHr.wr W44 (Safe.arv (hZ.alike) V_b39 (by decide)) CR39.1)
    have ST_COMPACT_STRINGS_45 := ST_COMPACT_STRINGS_40.wr W44
    have V_b39_44' : Arv Z h44 b39 k39 .char (2 : Int32) [(.int (nar .char ((own_f6 p1 (0 : Int32)).toUInt32.toUInt16.toUInt32.toInt32))), (.int (0 : Int32))] (.int (0 : Int32)) := V_b39_44
    have pre44 : ∀ t, Steps p.tables e below (T44.setTop (mkF m 22 #[.val (.int p1), .val (.int (2 : Int32)), .val (.ref b39)] [])) t → Steps p.tables e below (s₁.setTop (entryFrame m #[(.int p1)] 3)) t := fun t kt => pre43 t (st44 _ kt)
    have pre47 : ∀ t, Steps p.tables e below (T44.setTop (mkF m 31 #[.val (.int p1), .val (.int (2 : Int32)), .val (.ref b39)] [(.int (1 : Int32)), (.int p1), (.int (1 : Int32)), (.ref b39)])) t → Steps p.tables e below (s₁.setTop (entryFrame m #[(.int p1)] 3)) t := by
      intro t kt
      refine pre44 t ?_
      show Steps p.tables e below (T44.setTop (mkF m 22 #[.val (.int p1), .val (.int (2 : Int32)), .val (.ref b39)] [])) _
      refine XS.iloadN X44.here hx rfl (hb hby d1_22) rfl ?_
      show Steps p.tables e below (T44.setTop (mkF m 23 #[.val (.int p1), .val (.int (2 : Int32)), .val (.ref b39)] [(.int (2 : Int32))])) _
      refine XS.iconst X44.here hx rfl (hb hby d1_23) ?_
      show Steps p.tables e below (T44.setTop (mkF m 24 #[.val (.int p1), .val (.int (2 : Int32)), .val (.ref b39)] [(.int (1 : Int32)), (.int (2 : Int32))])) _
      refine XS.icmpNo X44.here hx rfl (hb hby d1_24) rfl (tlt (by decide)).2.2.2 ?_
      show Steps p.tables e below (T44.setTop (mkF m 27 #[.val (.int p1), .val (.int (2 : Int32)), .val (.ref b39)] [])) _
      refine XS.aloadN X44.here hx rfl (hb hby d1_27) rfl rfl ?_
      show Steps p.tables e below (T44.setTop (mkF m 28 #[.val (.int p1), .val (.int (2 : Int32)), .val (.ref b39)] [(.ref b39)])) _
      refine XS.iconst X44.here hx rfl (hb hby d1_28) ?_
      show Steps p.tables e below (T44.setTop (mkF m 29 #[.val (.int p1), .val (.int (2 : Int32)), .val (.ref b39)] [(.int (1 : Int32)), (.ref b39)])) _
      refine XS.iloadN X44.here hx rfl (hb hby d1_29) rfl ?_
      show Steps p.tables e below (T44.setTop (mkF m 30 #[.val (.int p1), .val (.int (2 : Int32)), .val (.ref b39)] [(.int p1), (.int (1 : Int32)), (.ref b39)])) _
      refine XS.iconst X44.here hx rfl (hb hby d1_30) ?_
      exact kt
    obtain ⟨_, _, ⟨T48, L48, k48, n48⟩, -, X48, ⟨Lc48, hQ48, l48, y48, z48⟩, st48⟩ := Jvm.LawKit.callS X44 hx (y := (⟨"com/example/vertumnus/vertumnus/TableNameEqualsPinLaw", "ch", "(II)I"⟩ : MethodName)) hown (mvT hZ (hw _ (List.mem_of_getElem? (i := 32) rfl))) (mvT hZ (hw _ (List.mem_of_getElem? (i := 33) rfl))) (mvT hZ (hw _ (List.mem_of_getElem? (i := 5) rfl))) (mvT hZ (hw _ (List.mem_of_getElem? (i := 34) rfl))) (by decide) (backOf (W := 2) (rm6 l Z a0 hw [] p1 (1 : Int32) h44 n0) hZ (hw _ (List.mem_of_getElem? (i := 34) rfl)) (hw _ (List.mem_of_getElem? (i := 5) rfl)) (by decide) (by decide)) (g := (mkF m 31 #[.val (.int p1), .val (.int (2 : Int32)), .val (.ref b39)] [(.int (1 : Int32)), (.int p1), (.int (1 : Int32)), (.ref b39)])) rfl (by rw [hml]; rfl) (argsL := [(.int p1), (.int (1 : Int32))]) (rest := [(.int (1 : Int32)), (.ref b39)]) (lenOf pd_3 rfl) rfl (by show 2 * 0 + _ ≤ _; exact Nat.le_of_eq rfl) (hb hby d1_31) (fun _ _ => ⟨rfl, e44, (by decide : 1 + 0 ≤ _), (by decide : 2 + 0 ≤ _)⟩)
    dsimp only [Pt.U, Pt.locs, Pt.cells, Pt.slots] at X48 l48 y48 z48 st48 hQ48
    subst l48 y48 z48
    obtain ⟨rfl, N48q, e48⟩ := hQ48
    have N48 := Fr.app N44 N48q
    have pre48 : ∀ t, Steps p.tables e below (T48.setTop (mkF m 34 #[.val (.int p1), .val (.int (2 : Int32)), .val (.ref b39)] [(.int (own_f6 p1 (1 : Int32))), (.int (1 : Int32)), (.ref b39)])) t → Steps p.tables e below (s₁.setTop (entryFrame m #[(.int p1)] 3)) t := fun t kt => pre47 t (st48 _ kt)
    have pre49 : ∀ t, Steps p.tables e below (T48.setTop (mkF m 35 #[.val (.int p1), .val (.int (2 : Int32)), .val (.ref b39)] [(.int ((own_f6 p1 (1 : Int32)).toUInt32.toUInt16.toUInt32.toInt32)), (.int (1 : Int32)), (.ref b39)])) t → Steps p.tables e below (s₁.setTop (entryFrame m #[(.int p1)] 3)) t := by
      intro t kt
      refine pre48 t ?_
      show Steps p.tables e below (T48.setTop (mkF m 34 #[.val (.int p1), .val (.int (2 : Int32)), .val (.ref b39)] [(.int (own_f6 p1 (1 : Int32))), (.int (1 : Int32)), (.ref b39)])) _
      refine XS.i2c X48.here hx rfl (hb hby d1_34) rfl ?_
      exact kt
    obtain ⟨cl50, Ar50, q50, S50, M50, H50, G50⟩ := (id V_b39_44')
    have hin50 : ¬ ((1 : Int32) < 0 ∨ cl50.slots.size ≤ ((1 : Int32)).toNatClampNeg) := inb_of S50 ⟨by decide, by decide⟩
    obtain ⟨T50, h50, X50, e50, W50, st50⟩ := stC X48 hx hZ e48 Ar50 (j := (1 : Int32)) hin50 (g := (mkF m 35 #[.val (.int p1), .val (.int (2 : Int32)), .val (.ref b39)] [(.int ((own_f6 p1 (1 : Int32)).toUInt32.toUInt16.toUInt32.toInt32)), (.int (1 : Int32)), (.ref b39)])) rfl rfl (hb hby d1_35)
    have V_b39_50 := Arv.set Ar50 q50 S50 M50 H50 G50 (fits_nar_char _) W50 1 rfl (Nat.le_of_ble_eq_true rfl)
    have N50 := Fr.snoc X50 N48 g_b39
    have K50 : Keep h0 h50 [] := K44.wr W50 (Or.inr sz_b39)
    have Z50 : n0 ≤ h50.size := Nat.le_trans Z44 (Keep.of_wr W50).1
    have mo50_0 := Nat.le_trans mo44_0 (Keep.of_wr W50).1
    have CR50 := CR44.trans (CHr.wr W50 (Safe.arv (hZ.alike) V_b39_44' (by decide)) CR44.1)
    have ST_COMPACT_STRINGS_51 := ST_COMPACT_STRINGS_45.wr W50
    have V_b39_50' : Arv Z h50 b39 k39 .char (2 : Int32) [(.int (nar .char ((own_f6 p1 (0 : Int32)).toUInt32.toUInt16.toUInt32.toInt32))), (.int (nar .char ((own_f6 p1 (1 : Int32)).toUInt32.toUInt16.toUInt32.toInt32)))] (.int (0 : Int32)) := V_b39_50
    have pre50 : ∀ t, Steps p.tables e below (T50.setTop (mkF m 36 #[.val (.int p1), .val (.int (2 : Int32)), .val (.ref b39)] [])) t → Steps p.tables e below (s₁.setTop (entryFrame m #[(.int p1)] 3)) t := fun t kt => pre49 t (st50 _ kt)
    have pre53 : ∀ t, Steps p.tables e below (T50.setTop (mkF m 50 #[.val (.int p1), .val (.int (2 : Int32)), .val (.ref b39)] [])) t → Steps p.tables e below (s₁.setTop (entryFrame m #[(.int p1)] 3)) t := by
      intro t kt
      refine pre50 t ?_
      show Steps p.tables e below (T50.setTop (mkF m 36 #[.val (.int p1), .val (.int (2 : Int32)), .val (.ref b39)] [])) _
      refine XS.iloadN X50.here hx rfl (hb hby d1_36) rfl ?_
      show Steps p.tables e below (T50.setTop (mkF m 37 #[.val (.int p1), .val (.int (2 : Int32)), .val (.ref b39)] [(.int (2 : Int32))])) _
      refine XS.iconst X50.here hx rfl (hb hby d1_37) ?_
      show Steps p.tables e below (T50.setTop (mkF m 38 #[.val (.int p1), .val (.int (2 : Int32)), .val (.ref b39)] [(.int (2 : Int32)), (.int (2 : Int32))])) _
      refine XS.icmpYes X50.here hx rfl (pc0 := 38) (pc' := 50) rfl (hb hby d1_38) rfl (flt (by decide)).2.2.2 (by decide) (by decide) ?_
      exact kt
    obtain ⟨T54, h54, X54, e54, E54, A54, D54, -, st54⟩ := newO X50 hx hZ hown (hw _ (List.mem_of_getElem? (i := 11) rfl)) (hw _ (List.mem_of_getElem? (i := 12) rfl)) (hw _ (List.mem_of_getElem? (i := 13) rfl)) e50 (g := (mkF m 50 #[.val (.int p1), .val (.int (2 : Int32)), .val (.ref b39)] [])) rfl (hb hby d1_50) (by decide) (by decide)
    obtain ⟨b54, g54⟩ : ∃ z, z = h50.size := ⟨_, rfl⟩
    have ne_b39_b54 : b39 ≠ b54 := Nat.ne_of_lt (Nat.lt_of_lt_of_le V_b39_50'.lt (Nat.le_of_eq g54.symm))
    have g_b54 : n0 ≤ b54 := Nat.le_trans Z50 (Nat.le_of_eq g54.symm)
    have sz_b54 : h0.size ≤ b54 := Nat.le_trans K50.1 (Nat.le_of_eq g54.symm)
    rw [← g54] at A54 D54 st54
    have K54 : Keep h0 h54 [] := K50.ext E54
    have Z54 : n0 ≤ h54.size := Nat.le_trans Z50 E54.1
    have mo54_0 := Nat.le_trans mo50_0 E54.1
    have CR54 := CR50.trans (CHr.ext E54 CR50.1)
    have ST_COMPACT_STRINGS_55 := ST_COMPACT_STRINGS_51.ext E54
    have V_b39_56 := V_b39_50'.ext E54
    have F_value_b54 : Fld Z h54 b54 "java/lang/String" "value" "[B" .null := D54 (Or.inr (hw _ (List.mem_of_getElem? (i := 26) rfl))) (ty := (.array .byte)) (by decide)
    have F_coder_b54 : Fld Z h54 b54 "java/lang/String" "coder" "B" (.int (0 : Int32)) := D54 (Or.inr (hw _ (List.mem_of_getElem? (i := 27) rfl))) (ty := .byte) (by decide)
    have pre54 : ∀ t, Steps p.tables e below (T54.setTop (mkF m 53 #[.val (.int p1), .val (.int (2 : Int32)), .val (.ref b39)] [(.ref b54)])) t → Steps p.tables e below (s₁.setTop (entryFrame m #[(.int p1)] 3)) t := fun t kt => pre53 t (st54 _ kt)
    have pre57 : ∀ t, Steps p.tables e below (T54.setTop (mkF m 55 #[.val (.int p1), .val (.int (2 : Int32)), .val (.ref b39)] [(.ref b39), (.ref b54), (.ref b54)])) t → Steps p.tables e below (s₁.setTop (entryFrame m #[(.int p1)] 3)) t := by
      intro t kt
      refine pre54 t ?_
      show Steps p.tables e below (T54.setTop (mkF m 53 #[.val (.int p1), .val (.int (2 : Int32)), .val (.ref b39)] [(.ref b54)])) _
      refine XS.dup X54.here hx rfl (hb hby d1_53) rfl rfl ?_
      show Steps p.tables e below (T54.setTop (mkF m 54 #[.val (.int p1), .val (.int (2 : Int32)), .val (.ref b39)] [(.ref b54), (.ref b54)])) _
      refine XS.aloadN X54.here hx rfl (hb hby d1_54) rfl rfl ?_
      exact kt
    have VS58 : Arv Z h54 b39 k39 .char (2 : Int32) (([own_f6 p1 0, own_f6 p1 1] : List Int32).map Value.int) (.int (0 : Int32)) := by
      have q := V_b39_56
      simp only [own_cn] at q
      exact q
    have hcs58 : ∀ c ∈ ([own_f6 p1 0, own_f6 p1 1] : List Int32), ¬ c < 0 ∧ ¬ (255 : Int32) < c := fun c hc => by
      simp only [List.mem_cons, List.not_mem_nil, or_false] at hc
      rcases hc with rfl | rfl <;> exact own_ch _ _
    have sfb58 : Safe Z EL s.vm h54 b54 := (own_safeNull (hZ.alike) A54 F_value_b54)
    obtain ⟨_, _, ⟨T58, L58, k58, n58⟩, -, X58, ⟨Lc58, hQ58, l58, y58, z58⟩, st58⟩ := X54.specialBack hx (y := (⟨"java/lang/String", "<init>", "([C)V"⟩ : MethodName)) rfl hown (mvT hZ (hw _ (List.mem_of_getElem? (i := 14) rfl))) (mvT hZ (hw _ (List.mem_of_getElem? (i := 15) rfl))) (mvT hZ (hw _ (List.mem_of_getElem? (i := 16) rfl))) (by decide) (StrChars.Road.backV (W := 1) hZ hws (kI := 4) (hw _ (List.mem_of_getElem? (i := 12) rfl)) (cs := [own_f6 p1 0, own_f6 p1 1]) (bs := ([own_f6 p1 0, own_f6 p1 1] : List Int32).map (fun c => c.toInt8.toInt32)) (n := 2) g_b54 Z54 A54 F_value_b54 F_coder_b54 VS58 ST_COMPACT_STRINGS_55 hCS rfl rfl (by decide) (by decide) hcs58 rfl (by decide) (by decide)) (g := (mkF m 55 #[.val (.int p1), .val (.int (2 : Int32)), .val (.ref b39)] [(.ref b39), (.ref b54), (.ref b54)])) rfl (by rw [hml]; rfl) (Steps.refl _) (a := b54) (argsL := [(.ref b39)]) (rest := [(.ref b54)]) (lenOf pd_2 rfl) rfl (by show 2 * 0 + _ ≤ _; exact Nat.le_of_eq rfl) (hb hby d1_55) (fun _ _ => ⟨rfl, e54, (by decide : 2 + 1 ≤ _), (by decide : 6 + 2 ≤ _)⟩)
    dsimp only [Pt.U, Pt.locs, Pt.cells, Pt.slots] at X58 l58 y58 z58 st58 hQ58
    subst l58 y58 z58
    obtain ⟨rfl, N58q, KC58, EQ58, CQ58, tq58, kbq58, gq58, gr58, gs58, FQ58, VQ58⟩ := hQ58
    have N58 := Fr.app N50 N58q
    have Z58 : n0 ≤ T58.heap.size := Nat.le_trans Z54 KC58.1
    have mo58_0 := Nat.le_trans mo54_0 KC58.1
    have CR58 := CR54.trans (CHr.keep KC58 (sfS sfb58 sf0) CR54.1)
    have K58 : Keep h0 T58.heap [] := K54.trans KC58 (allS (Or.inr sz_b54) all0)
    have ST_COMPACT_STRINGS_59 := own_stak ST_COMPACT_STRINGS_55 KC58 (nsS A54.nostat ns0)
    have V_b39_60 := V_b39_56.keep KC58 (ninS ne_b39_b54 nin0)
    have A54_61 := A54.keep KC58
    have pre58 : ∀ t, Steps p.tables e below (T58.setTop (mkF m 58 #[.val (.int p1), .val (.int (2 : Int32)), .val (.ref b39)] [(.ref b54)])) t → Steps p.tables e below (s₁.setTop (entryFrame m #[(.int p1)] 3)) t := fun t kt => pre57 t (st58.trans kt)
    have VF : Arv Z T58.heap tq58 kbq58 .byte (own_f2 p1) (((own_str p1).map fun c => c.toInt8.toInt32).map Value.int) (.int (0 : Int32)) := by
      rw [hl]; unfold own_str; rw [if_neg (show ¬ own_f2 p1 = 0 by rw [hl]; decide), if_neg (show ¬ own_f2 p1 = 1 by rw [hl]; decide), if_pos hl]
      exact VQ58
    obtain ⟨fs, hr, hrun, hended, hEnd⟩ := X58.leaveW (s := s) (vm₁ := s.vm) hS0 mo58_0 (v := some (.ref b54)) (fun h => by rw [Bd.returns] at h; cases h)
    refine ⟨_, _, pre58 _ ?_, hrun, hended, _, _, rfl, ?_, (by rw [hh]; exact CR58.trans (by rw [show (T58.setFrames fs).heap = T58.heap from rfl]; exact (show CHr Z EL s.vm T58.heap T58.vm T58.heap from CHv.at (s := s) (vm0 := s.vm) X58 hZ hEL CR58.1))), hEnd.1, hEnd.2.1, hEnd.2.2.1, hEnd.2.2.2.mono (by decide) (by decide)⟩
    · show Steps p.tables e below (T58.setTop (mkF m 58 #[.val (.int p1), .val (.int (2 : Int32)), .val (.ref b39)] [(.ref b54)])) _
      jvm_step X58.here [X58.here.top, hx, (hb hby d1_58), X58.method', Bd.returns, Value.isRef, FieldType.isReference]
      first | (intro acts; rw [hr _ acts rfl rfl rfl]) | rw [hr _ _ rfl rfl rfl]
      exact Steps.refl _
    · show Qrm1 Z p1 cz h0 n0 _ T58.heap _
      exact ⟨b54, tq58, kbq58, rfl, N58, K58, EQ58, FQ58, CQ58, VF, g_b54, sz_b54⟩
  · rw [hl] at pre3
    have pre64 : ∀ t, Steps p.tables e below (T2.setTop (mkF m 6 #[.val (.int p1), .val (.int (3 : Int32)), .unset] [(.int (3 : Int32))])) t → Steps p.tables e below (s₁.setTop (entryFrame m #[(.int p1)] 3)) t := by
      intro t kt
      refine pre3 t ?_
      show Steps p.tables e below (T2.setTop (mkF m 5 #[.val (.int p1), .val (.int (3 : Int32)), .unset] [])) _
      refine XS.iloadN X2.here hx rfl (hb hby d1_5) rfl ?_
      exact kt
    obtain ⟨T65, h65, k65, X65, e65, E65, A65, st65⟩ := newP X2 hx hZ (hw _ (List.mem_of_getElem? (i := 10) rfl)) e2 (g := (mkF m 6 #[.val (.int p1), .val (.int (3 : Int32)), .unset] [(.int (3 : Int32))])) rfl (hb hby d1_6) rfl (by decide) (cap := 3) (by decide) (by decide) (by decide) (by decide)
    obtain ⟨b65, g65⟩ : ∃ z, z = h0.size := ⟨_, rfl⟩
    have g_b65 : n0 ≤ b65 := Nat.le_trans Z0 (Nat.le_of_eq g65.symm)
    have sz_b65 : h0.size ≤ b65 := Nat.le_trans (Keep.refl h0 []).1 (Nat.le_of_eq g65.symm)
    rw [← g65] at A65 st65
    have K65 : Keep h0 h65 [] := (Keep.refl h0 []).ext E65
    have Z65 : n0 ≤ h65.size := Nat.le_trans Z0 E65.1
    have mo65_0 := Nat.le_trans (Nat.zero_le _) E65.1
    have CR65 := CR0.trans (CHr.ext E65 CR0.1)
    have ST_COMPACT_STRINGS_66 := ST_COMPACT_STRINGS.ext E65
    have V_b65 : Arv Z h65 b65 k65 .char (3 : Int32) [(.int (0 : Int32)), (.int (0 : Int32)), (.int (0 : Int32))] (.int (0 : Int32)) := (Arv.new A65 (by decide)).pad (pad_rep [] (.int (0 : Int32)) 3)
    have pre65 : ∀ t, Steps p.tables e below (T65.setTop (mkF m 8 #[.val (.int p1), .val (.int (3 : Int32)), .unset] [(.ref b65)])) t → Steps p.tables e below (s₁.setTop (entryFrame m #[(.int p1)] 3)) t := fun t kt => pre64 t (st65 _ kt)
    have pre67 : ∀ t, Steps p.tables e below (T65.setTop (mkF m 17 #[.val (.int p1), .val (.int (3 : Int32)), .val (.ref b65)] [(.int (0 : Int32)), (.int p1), (.int (0 : Int32)), (.ref b65)])) t → Steps p.tables e below (s₁.setTop (entryFrame m #[(.int p1)] 3)) t := by
      intro t kt
      refine pre65 t ?_
      show Steps p.tables e below (T65.setTop (mkF m 8 #[.val (.int p1), .val (.int (3 : Int32)), .unset] [(.ref b65)])) _
      refine XS.astoreN X65.here hx rfl (hb hby d1_8) rfl rfl (l' := #[.val (.int p1), .val (.int (3 : Int32)), .val (.ref b65)]) rfl ?_
      show Steps p.tables e below (T65.setTop (mkF m 9 #[.val (.int p1), .val (.int (3 : Int32)), .val (.ref b65)] [])) _
      refine XS.iloadN X65.here hx rfl (hb hby d1_9) rfl ?_
      show Steps p.tables e below (T65.setTop (mkF m 10 #[.val (.int p1), .val (.int (3 : Int32)), .val (.ref b65)] [(.int (3 : Int32))])) _
      refine XS.ifNo X65.here hx rfl (hb hby d1_10) rfl ((if0 _ _).trans (tlt (by decide)).2.2.2) ?_
      show Steps p.tables e below (T65.setTop (mkF m 13 #[.val (.int p1), .val (.int (3 : Int32)), .val (.ref b65)] [])) _
      refine XS.aloadN X65.here hx rfl (hb hby d1_13) rfl rfl ?_
      show Steps p.tables e below (T65.setTop (mkF m 14 #[.val (.int p1), .val (.int (3 : Int32)), .val (.ref b65)] [(.ref b65)])) _
      refine XS.iconst X65.here hx rfl (hb hby d1_14) ?_
      show Steps p.tables e below (T65.setTop (mkF m 15 #[.val (.int p1), .val (.int (3 : Int32)), .val (.ref b65)] [(.int (0 : Int32)), (.ref b65)])) _
      refine XS.iloadN X65.here hx rfl (hb hby d1_15) rfl ?_
      show Steps p.tables e below (T65.setTop (mkF m 16 #[.val (.int p1), .val (.int (3 : Int32)), .val (.ref b65)] [(.int p1), (.int (0 : Int32)), (.ref b65)])) _
      refine XS.iconst X65.here hx rfl (hb hby d1_16) ?_
      exact kt
    obtain ⟨_, _, ⟨T68, L68, k68, n68⟩, -, X68, ⟨Lc68, hQ68, l68, y68, z68⟩, st68⟩ := Jvm.LawKit.callS X65 hx (y := (⟨"com/example/vertumnus/vertumnus/TableNameEqualsPinLaw", "ch", "(II)I"⟩ : MethodName)) hown (mvT hZ (hw _ (List.mem_of_getElem? (i := 32) rfl))) (mvT hZ (hw _ (List.mem_of_getElem? (i := 33) rfl))) (mvT hZ (hw _ (List.mem_of_getElem? (i := 5) rfl))) (mvT hZ (hw _ (List.mem_of_getElem? (i := 34) rfl))) (by decide) (backOf (W := 2) (rm6 l Z a0 hw [] p1 (0 : Int32) h65 n0) hZ (hw _ (List.mem_of_getElem? (i := 34) rfl)) (hw _ (List.mem_of_getElem? (i := 5) rfl)) (by decide) (by decide)) (g := (mkF m 17 #[.val (.int p1), .val (.int (3 : Int32)), .val (.ref b65)] [(.int (0 : Int32)), (.int p1), (.int (0 : Int32)), (.ref b65)])) rfl (by rw [hml]; rfl) (argsL := [(.int p1), (.int (0 : Int32))]) (rest := [(.int (0 : Int32)), (.ref b65)]) (lenOf pd_3 rfl) rfl (by show 2 * 0 + _ ≤ _; exact Nat.le_of_eq rfl) (hb hby d1_17) (fun _ _ => ⟨rfl, e65, (by decide : 1 + 0 ≤ _), (by decide : 3 + 0 ≤ _)⟩)
    dsimp only [Pt.U, Pt.locs, Pt.cells, Pt.slots] at X68 l68 y68 z68 st68 hQ68
    subst l68 y68 z68
    obtain ⟨rfl, N68q, e68⟩ := hQ68
    have N68 := Fr.app N2 N68q
    have pre68 : ∀ t, Steps p.tables e below (T68.setTop (mkF m 20 #[.val (.int p1), .val (.int (3 : Int32)), .val (.ref b65)] [(.int (own_f6 p1 (0 : Int32))), (.int (0 : Int32)), (.ref b65)])) t → Steps p.tables e below (s₁.setTop (entryFrame m #[(.int p1)] 3)) t := fun t kt => pre67 t (st68 _ kt)
    have pre69 : ∀ t, Steps p.tables e below (T68.setTop (mkF m 21 #[.val (.int p1), .val (.int (3 : Int32)), .val (.ref b65)] [(.int ((own_f6 p1 (0 : Int32)).toUInt32.toUInt16.toUInt32.toInt32)), (.int (0 : Int32)), (.ref b65)])) t → Steps p.tables e below (s₁.setTop (entryFrame m #[(.int p1)] 3)) t := by
      intro t kt
      refine pre68 t ?_
      show Steps p.tables e below (T68.setTop (mkF m 20 #[.val (.int p1), .val (.int (3 : Int32)), .val (.ref b65)] [(.int (own_f6 p1 (0 : Int32))), (.int (0 : Int32)), (.ref b65)])) _
      refine XS.i2c X68.here hx rfl (hb hby d1_20) rfl ?_
      exact kt
    obtain ⟨cl70, Ar70, q70, S70, M70, H70, G70⟩ := (id V_b65)
    have hin70 : ¬ ((0 : Int32) < 0 ∨ cl70.slots.size ≤ ((0 : Int32)).toNatClampNeg) := inb_of S70 ⟨by decide, by decide⟩
    obtain ⟨T70, h70, X70, e70, W70, st70⟩ := stC X68 hx hZ e68 Ar70 (j := (0 : Int32)) hin70 (g := (mkF m 21 #[.val (.int p1), .val (.int (3 : Int32)), .val (.ref b65)] [(.int ((own_f6 p1 (0 : Int32)).toUInt32.toUInt16.toUInt32.toInt32)), (.int (0 : Int32)), (.ref b65)])) rfl rfl (hb hby d1_21)
    have V_b65_70 := Arv.set Ar70 q70 S70 M70 H70 G70 (fits_nar_char _) W70 0 rfl (Nat.le_of_ble_eq_true rfl)
    have N70 := Fr.snoc X70 N68 g_b65
    have K70 : Keep h0 h70 [] := K65.wr W70 (Or.inr sz_b65)
    have Z70 : n0 ≤ h70.size := Nat.le_trans Z65 (Keep.of_wr W70).1
    have mo70_0 := Nat.le_trans mo65_0 (Keep.of_wr W70).1
    have CR70 := CR65.trans (CHr.wr W70 (Safe.arv (hZ.alike) V_b65 (by decide)) CR65.1)
    have ST_COMPACT_STRINGS_71 := ST_COMPACT_STRINGS_66.wr W70
    have V_b65_70' : Arv Z h70 b65 k65 .char (3 : Int32) [(.int (nar .char ((own_f6 p1 (0 : Int32)).toUInt32.toUInt16.toUInt32.toInt32))), (.int (0 : Int32)), (.int (0 : Int32))] (.int (0 : Int32)) := V_b65_70
    have pre70 : ∀ t, Steps p.tables e below (T70.setTop (mkF m 22 #[.val (.int p1), .val (.int (3 : Int32)), .val (.ref b65)] [])) t → Steps p.tables e below (s₁.setTop (entryFrame m #[(.int p1)] 3)) t := fun t kt => pre69 t (st70 _ kt)
    have pre73 : ∀ t, Steps p.tables e below (T70.setTop (mkF m 31 #[.val (.int p1), .val (.int (3 : Int32)), .val (.ref b65)] [(.int (1 : Int32)), (.int p1), (.int (1 : Int32)), (.ref b65)])) t → Steps p.tables e below (s₁.setTop (entryFrame m #[(.int p1)] 3)) t := by
      intro t kt
      refine pre70 t ?_
      show Steps p.tables e below (T70.setTop (mkF m 22 #[.val (.int p1), .val (.int (3 : Int32)), .val (.ref b65)] [])) _
      refine XS.iloadN X70.here hx rfl (hb hby d1_22) rfl ?_
      show Steps p.tables e below (T70.setTop (mkF m 23 #[.val (.int p1), .val (.int (3 : Int32)), .val (.ref b65)] [(.int (3 : Int32))])) _
      refine XS.iconst X70.here hx rfl (hb hby d1_23) ?_
      show Steps p.tables e below (T70.setTop (mkF m 24 #[.val (.int p1), .val (.int (3 : Int32)), .val (.ref b65)] [(.int (1 : Int32)), (.int (3 : Int32))])) _
      refine XS.icmpNo X70.here hx rfl (hb hby d1_24) rfl (tlt (by decide)).2.2.2 ?_
      show Steps p.tables e below (T70.setTop (mkF m 27 #[.val (.int p1), .val (.int (3 : Int32)), .val (.ref b65)] [])) _
      refine XS.aloadN X70.here hx rfl (hb hby d1_27) rfl rfl ?_
      show Steps p.tables e below (T70.setTop (mkF m 28 #[.val (.int p1), .val (.int (3 : Int32)), .val (.ref b65)] [(.ref b65)])) _
      refine XS.iconst X70.here hx rfl (hb hby d1_28) ?_
      show Steps p.tables e below (T70.setTop (mkF m 29 #[.val (.int p1), .val (.int (3 : Int32)), .val (.ref b65)] [(.int (1 : Int32)), (.ref b65)])) _
      refine XS.iloadN X70.here hx rfl (hb hby d1_29) rfl ?_
      show Steps p.tables e below (T70.setTop (mkF m 30 #[.val (.int p1), .val (.int (3 : Int32)), .val (.ref b65)] [(.int p1), (.int (1 : Int32)), (.ref b65)])) _
      refine XS.iconst X70.here hx rfl (hb hby d1_30) ?_
      exact kt
    obtain ⟨_, _, ⟨T74, L74, k74, n74⟩, -, X74, ⟨Lc74, hQ74, l74, y74, z74⟩, st74⟩ := Jvm.LawKit.callS X70 hx (y := (⟨"com/example/vertumnus/vertumnus/TableNameEqualsPinLaw", "ch", "(II)I"⟩ : MethodName)) hown (mvT hZ (hw _ (List.mem_of_getElem? (i := 32) rfl))) (mvT hZ (hw _ (List.mem_of_getElem? (i := 33) rfl))) (mvT hZ (hw _ (List.mem_of_getElem? (i := 5) rfl))) (mvT hZ (hw _ (List.mem_of_getElem? (i := 34) rfl))) (by decide) (backOf (W := 2) (rm6 l Z a0 hw [] p1 (1 : Int32) h70 n0) hZ (hw _ (List.mem_of_getElem? (i := 34) rfl)) (hw _ (List.mem_of_getElem? (i := 5) rfl)) (by decide) (by decide)) (g := (mkF m 31 #[.val (.int p1), .val (.int (3 : Int32)), .val (.ref b65)] [(.int (1 : Int32)), (.int p1), (.int (1 : Int32)), (.ref b65)])) rfl (by rw [hml]; rfl) (argsL := [(.int p1), (.int (1 : Int32))]) (rest := [(.int (1 : Int32)), (.ref b65)]) (lenOf pd_3 rfl) rfl (by show 2 * 0 + _ ≤ _; exact Nat.le_of_eq rfl) (hb hby d1_31) (fun _ _ => ⟨rfl, e70, (by decide : 1 + 0 ≤ _), (by decide : 3 + 0 ≤ _)⟩)
    dsimp only [Pt.U, Pt.locs, Pt.cells, Pt.slots] at X74 l74 y74 z74 st74 hQ74
    subst l74 y74 z74
    obtain ⟨rfl, N74q, e74⟩ := hQ74
    have N74 := Fr.app N70 N74q
    have pre74 : ∀ t, Steps p.tables e below (T74.setTop (mkF m 34 #[.val (.int p1), .val (.int (3 : Int32)), .val (.ref b65)] [(.int (own_f6 p1 (1 : Int32))), (.int (1 : Int32)), (.ref b65)])) t → Steps p.tables e below (s₁.setTop (entryFrame m #[(.int p1)] 3)) t := fun t kt => pre73 t (st74 _ kt)
    have pre75 : ∀ t, Steps p.tables e below (T74.setTop (mkF m 35 #[.val (.int p1), .val (.int (3 : Int32)), .val (.ref b65)] [(.int ((own_f6 p1 (1 : Int32)).toUInt32.toUInt16.toUInt32.toInt32)), (.int (1 : Int32)), (.ref b65)])) t → Steps p.tables e below (s₁.setTop (entryFrame m #[(.int p1)] 3)) t := by
      intro t kt
      refine pre74 t ?_
      show Steps p.tables e below (T74.setTop (mkF m 34 #[.val (.int p1), .val (.int (3 : Int32)), .val (.ref b65)] [(.int (own_f6 p1 (1 : Int32))), (.int (1 : Int32)), (.ref b65)])) _
      refine XS.i2c X74.here hx rfl (hb hby d1_34) rfl ?_
      exact kt
    obtain ⟨cl76, Ar76, q76, S76, M76, H76, G76⟩ := (id V_b65_70')
    have hin76 : ¬ ((1 : Int32) < 0 ∨ cl76.slots.size ≤ ((1 : Int32)).toNatClampNeg) := inb_of S76 ⟨by decide, by decide⟩
    obtain ⟨T76, h76, X76, e76, W76, st76⟩ := stC X74 hx hZ e74 Ar76 (j := (1 : Int32)) hin76 (g := (mkF m 35 #[.val (.int p1), .val (.int (3 : Int32)), .val (.ref b65)] [(.int ((own_f6 p1 (1 : Int32)).toUInt32.toUInt16.toUInt32.toInt32)), (.int (1 : Int32)), (.ref b65)])) rfl rfl (hb hby d1_35)
    have V_b65_76 := Arv.set Ar76 q76 S76 M76 H76 G76 (fits_nar_char _) W76 1 rfl (Nat.le_of_ble_eq_true rfl)
    have N76 := Fr.snoc X76 N74 g_b65
    have K76 : Keep h0 h76 [] := K70.wr W76 (Or.inr sz_b65)
    have Z76 : n0 ≤ h76.size := Nat.le_trans Z70 (Keep.of_wr W76).1
    have mo76_0 := Nat.le_trans mo70_0 (Keep.of_wr W76).1
    have CR76 := CR70.trans (CHr.wr W76 (Safe.arv (hZ.alike) V_b65_70' (by decide)) CR70.1)
    have ST_COMPACT_STRINGS_77 := ST_COMPACT_STRINGS_71.wr W76
    have V_b65_76' : Arv Z h76 b65 k65 .char (3 : Int32) [(.int (nar .char ((own_f6 p1 (0 : Int32)).toUInt32.toUInt16.toUInt32.toInt32))), (.int (nar .char ((own_f6 p1 (1 : Int32)).toUInt32.toUInt16.toUInt32.toInt32))), (.int (0 : Int32))] (.int (0 : Int32)) := V_b65_76
    have pre76 : ∀ t, Steps p.tables e below (T76.setTop (mkF m 36 #[.val (.int p1), .val (.int (3 : Int32)), .val (.ref b65)] [])) t → Steps p.tables e below (s₁.setTop (entryFrame m #[(.int p1)] 3)) t := fun t kt => pre75 t (st76 _ kt)
    have pre79 : ∀ t, Steps p.tables e below (T76.setTop (mkF m 45 #[.val (.int p1), .val (.int (3 : Int32)), .val (.ref b65)] [(.int (2 : Int32)), (.int p1), (.int (2 : Int32)), (.ref b65)])) t → Steps p.tables e below (s₁.setTop (entryFrame m #[(.int p1)] 3)) t := by
      intro t kt
      refine pre76 t ?_
      show Steps p.tables e below (T76.setTop (mkF m 36 #[.val (.int p1), .val (.int (3 : Int32)), .val (.ref b65)] [])) _
      refine XS.iloadN X76.here hx rfl (hb hby d1_36) rfl ?_
      show Steps p.tables e below (T76.setTop (mkF m 37 #[.val (.int p1), .val (.int (3 : Int32)), .val (.ref b65)] [(.int (3 : Int32))])) _
      refine XS.iconst X76.here hx rfl (hb hby d1_37) ?_
      show Steps p.tables e below (T76.setTop (mkF m 38 #[.val (.int p1), .val (.int (3 : Int32)), .val (.ref b65)] [(.int (2 : Int32)), (.int (3 : Int32))])) _
      refine XS.icmpNo X76.here hx rfl (hb hby d1_38) rfl (tlt (by decide)).2.2.2 ?_
      show Steps p.tables e below (T76.setTop (mkF m 41 #[.val (.int p1), .val (.int (3 : Int32)), .val (.ref b65)] [])) _
      refine XS.aloadN X76.here hx rfl (hb hby d1_41) rfl rfl ?_
      show Steps p.tables e below (T76.setTop (mkF m 42 #[.val (.int p1), .val (.int (3 : Int32)), .val (.ref b65)] [(.ref b65)])) _
      refine XS.iconst X76.here hx rfl (hb hby d1_42) ?_
      show Steps p.tables e below (T76.setTop (mkF m 43 #[.val (.int p1), .val (.int (3 : Int32)), .val (.ref b65)] [(.int (2 : Int32)), (.ref b65)])) _
      refine XS.iloadN X76.here hx rfl (hb hby d1_43) rfl ?_
      show Steps p.tables e below (T76.setTop (mkF m 44 #[.val (.int p1), .val (.int (3 : Int32)), .val (.ref b65)] [(.int p1), (.int (2 : Int32)), (.ref b65)])) _
      refine XS.iconst X76.here hx rfl (hb hby d1_44) ?_
      exact kt
    obtain ⟨_, _, ⟨T80, L80, k80, n80⟩, -, X80, ⟨Lc80, hQ80, l80, y80, z80⟩, st80⟩ := Jvm.LawKit.callS X76 hx (y := (⟨"com/example/vertumnus/vertumnus/TableNameEqualsPinLaw", "ch", "(II)I"⟩ : MethodName)) hown (mvT hZ (hw _ (List.mem_of_getElem? (i := 32) rfl))) (mvT hZ (hw _ (List.mem_of_getElem? (i := 33) rfl))) (mvT hZ (hw _ (List.mem_of_getElem? (i := 5) rfl))) (mvT hZ (hw _ (List.mem_of_getElem? (i := 34) rfl))) (by decide) (backOf (W := 2) (rm6 l Z a0 hw [] p1 (2 : Int32) h76 n0) hZ (hw _ (List.mem_of_getElem? (i := 34) rfl)) (hw _ (List.mem_of_getElem? (i := 5) rfl)) (by decide) (by decide)) (g := (mkF m 45 #[.val (.int p1), .val (.int (3 : Int32)), .val (.ref b65)] [(.int (2 : Int32)), (.int p1), (.int (2 : Int32)), (.ref b65)])) rfl (by rw [hml]; rfl) (argsL := [(.int p1), (.int (2 : Int32))]) (rest := [(.int (2 : Int32)), (.ref b65)]) (lenOf pd_3 rfl) rfl (by show 2 * 0 + _ ≤ _; exact Nat.le_of_eq rfl) (hb hby d1_45) (fun _ _ => ⟨rfl, e76, (by decide : 1 + 0 ≤ _), (by decide : 3 + 0 ≤ _)⟩)
    dsimp only [Pt.U, Pt.locs, Pt.cells, Pt.slots] at X80 l80 y80 z80 st80 hQ80
    subst l80 y80 z80
    obtain ⟨rfl, N80q, e80⟩ := hQ80
    have N80 := Fr.app N76 N80q
    have pre80 : ∀ t, Steps p.tables e below (T80.setTop (mkF m 48 #[.val (.int p1), .val (.int (3 : Int32)), .val (.ref b65)] [(.int (own_f6 p1 (2 : Int32))), (.int (2 : Int32)), (.ref b65)])) t → Steps p.tables e below (s₁.setTop (entryFrame m #[(.int p1)] 3)) t := fun t kt => pre79 t (st80 _ kt)
    have pre81 : ∀ t, Steps p.tables e below (T80.setTop (mkF m 49 #[.val (.int p1), .val (.int (3 : Int32)), .val (.ref b65)] [(.int ((own_f6 p1 (2 : Int32)).toUInt32.toUInt16.toUInt32.toInt32)), (.int (2 : Int32)), (.ref b65)])) t → Steps p.tables e below (s₁.setTop (entryFrame m #[(.int p1)] 3)) t := by
      intro t kt
      refine pre80 t ?_
      show Steps p.tables e below (T80.setTop (mkF m 48 #[.val (.int p1), .val (.int (3 : Int32)), .val (.ref b65)] [(.int (own_f6 p1 (2 : Int32))), (.int (2 : Int32)), (.ref b65)])) _
      refine XS.i2c X80.here hx rfl (hb hby d1_48) rfl ?_
      exact kt
    obtain ⟨cl82, Ar82, q82, S82, M82, H82, G82⟩ := (id V_b65_76')
    have hin82 : ¬ ((2 : Int32) < 0 ∨ cl82.slots.size ≤ ((2 : Int32)).toNatClampNeg) := inb_of S82 ⟨by decide, by decide⟩
    obtain ⟨T82, h82, X82, e82, W82, st82⟩ := stC X80 hx hZ e80 Ar82 (j := (2 : Int32)) hin82 (g := (mkF m 49 #[.val (.int p1), .val (.int (3 : Int32)), .val (.ref b65)] [(.int ((own_f6 p1 (2 : Int32)).toUInt32.toUInt16.toUInt32.toInt32)), (.int (2 : Int32)), (.ref b65)])) rfl rfl (hb hby d1_49)
    have V_b65_82 := Arv.set Ar82 q82 S82 M82 H82 G82 (fits_nar_char _) W82 2 rfl (Nat.le_of_ble_eq_true rfl)
    have N82 := Fr.snoc X82 N80 g_b65
    have K82 : Keep h0 h82 [] := K76.wr W82 (Or.inr sz_b65)
    have Z82 : n0 ≤ h82.size := Nat.le_trans Z76 (Keep.of_wr W82).1
    have mo82_0 := Nat.le_trans mo76_0 (Keep.of_wr W82).1
    have CR82 := CR76.trans (CHr.wr W82 (Safe.arv (hZ.alike) V_b65_76' (by decide)) CR76.1)
    have ST_COMPACT_STRINGS_83 := ST_COMPACT_STRINGS_77.wr W82
    have V_b65_82' : Arv Z h82 b65 k65 .char (3 : Int32) [(.int (nar .char ((own_f6 p1 (0 : Int32)).toUInt32.toUInt16.toUInt32.toInt32))), (.int (nar .char ((own_f6 p1 (1 : Int32)).toUInt32.toUInt16.toUInt32.toInt32))), (.int (nar .char ((own_f6 p1 (2 : Int32)).toUInt32.toUInt16.toUInt32.toInt32)))] (.int (0 : Int32)) := V_b65_82
    have pre82 : ∀ t, Steps p.tables e below (T82.setTop (mkF m 50 #[.val (.int p1), .val (.int (3 : Int32)), .val (.ref b65)] [])) t → Steps p.tables e below (s₁.setTop (entryFrame m #[(.int p1)] 3)) t := fun t kt => pre81 t (st82 _ kt)
    obtain ⟨T85, h85, X85, e85, E85, A85, D85, -, st85⟩ := newO X82 hx hZ hown (hw _ (List.mem_of_getElem? (i := 11) rfl)) (hw _ (List.mem_of_getElem? (i := 12) rfl)) (hw _ (List.mem_of_getElem? (i := 13) rfl)) e82 (g := (mkF m 50 #[.val (.int p1), .val (.int (3 : Int32)), .val (.ref b65)] [])) rfl (hb hby d1_50) (by decide) (by decide)
    obtain ⟨b85, g85⟩ : ∃ z, z = h82.size := ⟨_, rfl⟩
    have ne_b65_b85 : b65 ≠ b85 := Nat.ne_of_lt (Nat.lt_of_lt_of_le V_b65_82'.lt (Nat.le_of_eq g85.symm))
    have g_b85 : n0 ≤ b85 := Nat.le_trans Z82 (Nat.le_of_eq g85.symm)
    have sz_b85 : h0.size ≤ b85 := Nat.le_trans K82.1 (Nat.le_of_eq g85.symm)
    rw [← g85] at A85 D85 st85
    have K85 : Keep h0 h85 [] := K82.ext E85
    have Z85 : n0 ≤ h85.size := Nat.le_trans Z82 E85.1
    have mo85_0 := Nat.le_trans mo82_0 E85.1
    have CR85 := CR82.trans (CHr.ext E85 CR82.1)
    have ST_COMPACT_STRINGS_86 := ST_COMPACT_STRINGS_83.ext E85
    have V_b65_87 := V_b65_82'.ext E85
    have F_value_b85 : Fld Z h85 b85 "java/lang/String" "value" "[B" .null := D85 (Or.inr (hw _ (List.mem_of_getElem? (i := 26) rfl))) (ty := (.array .byte)) (by decide)
    have F_coder_b85 : Fld Z h85 b85 "java/lang/String" "coder" "B" (.int (0 : Int32)) := D85 (Or.inr (hw _ (List.mem_of_getElem? (i := 27) rfl))) (ty := .byte) (by decide)
    have pre85 : ∀ t, Steps p.tables e below (T85.setTop (mkF m 53 #[.val (.int p1), .val (.int (3 : Int32)), .val (.ref b65)] [(.ref b85)])) t → Steps p.tables e below (s₁.setTop (entryFrame m #[(.int p1)] 3)) t := fun t kt => pre82 t (st85 _ kt)
    have pre88 : ∀ t, Steps p.tables e below (T85.setTop (mkF m 55 #[.val (.int p1), .val (.int (3 : Int32)), .val (.ref b65)] [(.ref b65), (.ref b85), (.ref b85)])) t → Steps p.tables e below (s₁.setTop (entryFrame m #[(.int p1)] 3)) t := by
      intro t kt
      refine pre85 t ?_
      show Steps p.tables e below (T85.setTop (mkF m 53 #[.val (.int p1), .val (.int (3 : Int32)), .val (.ref b65)] [(.ref b85)])) _
      refine XS.dup X85.here hx rfl (hb hby d1_53) rfl rfl ?_
      show Steps p.tables e below (T85.setTop (mkF m 54 #[.val (.int p1), .val (.int (3 : Int32)), .val (.ref b65)] [(.ref b85), (.ref b85)])) _
      refine XS.aloadN X85.here hx rfl (hb hby d1_54) rfl rfl ?_
      exact kt
    have VS89 : Arv Z h85 b65 k65 .char (3 : Int32) (([own_f6 p1 0, own_f6 p1 1, own_f6 p1 2] : List Int32).map Value.int) (.int (0 : Int32)) := by
      have q := V_b65_87
      simp only [own_cn] at q
      exact q
    have hcs89 : ∀ c ∈ ([own_f6 p1 0, own_f6 p1 1, own_f6 p1 2] : List Int32), ¬ c < 0 ∧ ¬ (255 : Int32) < c := fun c hc => by
      simp only [List.mem_cons, List.not_mem_nil, or_false] at hc
      rcases hc with rfl | rfl | rfl <;> exact own_ch _ _
    have sfb89 : Safe Z EL s.vm h85 b85 := (own_safeNull (hZ.alike) A85 F_value_b85)
    obtain ⟨_, _, ⟨T89, L89, k89, n89⟩, -, X89, ⟨Lc89, hQ89, l89, y89, z89⟩, st89⟩ := X85.specialBack hx (y := (⟨"java/lang/String", "<init>", "([C)V"⟩ : MethodName)) rfl hown (mvT hZ (hw _ (List.mem_of_getElem? (i := 14) rfl))) (mvT hZ (hw _ (List.mem_of_getElem? (i := 15) rfl))) (mvT hZ (hw _ (List.mem_of_getElem? (i := 16) rfl))) (by decide) (StrChars.Road.backV (W := 1) hZ hws (kI := 4) (hw _ (List.mem_of_getElem? (i := 12) rfl)) (cs := [own_f6 p1 0, own_f6 p1 1, own_f6 p1 2]) (bs := ([own_f6 p1 0, own_f6 p1 1, own_f6 p1 2] : List Int32).map (fun c => c.toInt8.toInt32)) (n := 3) g_b85 Z85 A85 F_value_b85 F_coder_b85 VS89 ST_COMPACT_STRINGS_86 hCS rfl rfl (by decide) (by decide) hcs89 rfl (by decide) (by decide)) (g := (mkF m 55 #[.val (.int p1), .val (.int (3 : Int32)), .val (.ref b65)] [(.ref b65), (.ref b85), (.ref b85)])) rfl (by rw [hml]; rfl) (Steps.refl _) (a := b85) (argsL := [(.ref b65)]) (rest := [(.ref b85)]) (lenOf pd_2 rfl) rfl (by show 2 * 0 + _ ≤ _; exact Nat.le_of_eq rfl) (hb hby d1_55) (fun _ _ => ⟨rfl, e85, (by decide : 2 + 1 ≤ _), (by decide : 7 + 3 ≤ _)⟩)
    dsimp only [Pt.U, Pt.locs, Pt.cells, Pt.slots] at X89 l89 y89 z89 st89 hQ89
    subst l89 y89 z89
    obtain ⟨rfl, N89q, KC89, EQ89, CQ89, tq89, kbq89, gq89, gr89, gs89, FQ89, VQ89⟩ := hQ89
    have N89 := Fr.app N82 N89q
    have Z89 : n0 ≤ T89.heap.size := Nat.le_trans Z85 KC89.1
    have mo89_0 := Nat.le_trans mo85_0 KC89.1
    have CR89 := CR85.trans (CHr.keep KC89 (sfS sfb89 sf0) CR85.1)
    have K89 : Keep h0 T89.heap [] := K85.trans KC89 (allS (Or.inr sz_b85) all0)
    have ST_COMPACT_STRINGS_90 := own_stak ST_COMPACT_STRINGS_86 KC89 (nsS A85.nostat ns0)
    have V_b65_91 := V_b65_87.keep KC89 (ninS ne_b65_b85 nin0)
    have A85_92 := A85.keep KC89
    have pre89 : ∀ t, Steps p.tables e below (T89.setTop (mkF m 58 #[.val (.int p1), .val (.int (3 : Int32)), .val (.ref b65)] [(.ref b85)])) t → Steps p.tables e below (s₁.setTop (entryFrame m #[(.int p1)] 3)) t := fun t kt => pre88 t (st89.trans kt)
    have VF : Arv Z T89.heap tq89 kbq89 .byte (own_f2 p1) (((own_str p1).map fun c => c.toInt8.toInt32).map Value.int) (.int (0 : Int32)) := by
      rw [hl]; unfold own_str; rw [if_neg (show ¬ own_f2 p1 = 0 by rw [hl]; decide), if_neg (show ¬ own_f2 p1 = 1 by rw [hl]; decide), if_neg (show ¬ own_f2 p1 = 2 by rw [hl]; decide)]
      exact VQ89
    obtain ⟨fs, hr, hrun, hended, hEnd⟩ := X89.leaveW (s := s) (vm₁ := s.vm) hS0 mo89_0 (v := some (.ref b85)) (fun h => by rw [Bd.returns] at h; cases h)
    refine ⟨_, _, pre89 _ ?_, hrun, hended, _, _, rfl, ?_, (by rw [hh]; exact CR89.trans (by rw [show (T89.setFrames fs).heap = T89.heap from rfl]; exact (show CHr Z EL s.vm T89.heap T89.vm T89.heap from CHv.at (s := s) (vm0 := s.vm) X89 hZ hEL CR89.1))), hEnd.1, hEnd.2.1, hEnd.2.2.1, hEnd.2.2.2.mono (by decide) (by decide)⟩
    · show Steps p.tables e below (T89.setTop (mkF m 58 #[.val (.int p1), .val (.int (3 : Int32)), .val (.ref b65)] [(.ref b85)])) _
      jvm_step X89.here [X89.here.top, hx, (hb hby d1_58), X89.method', Bd.returns, Value.isRef, FieldType.isReference]
      first | (intro acts; rw [hr _ acts rfl rfl rfl]) | rw [hr _ _ rfl rfl rfl]
      exact Steps.refl _
    · show Qrm1 Z p1 cz h0 n0 _ T89.heap _
      exact ⟨b85, tq89, kbq89, rfl, N89, K89, EQ89, FQ89, CQ89, VF, g_b85, sz_b85⟩

def own_s3 (x y : Int32) : Int32 := if (2 : Int32) < own_f2 x then (if own_f6 x 2 = own_f6 y 2 then 1 else 0) else 1
def own_s2 (x y : Int32) : Int32 := if (1 : Int32) < own_f2 x then (if own_f6 x 1 = own_f6 y 1 then own_s3 x y else 0) else own_s3 x y
def own_s1 (x y : Int32) : Int32 := if (0 : Int32) < own_f2 x then (if own_f6 x 0 = own_f6 y 0 then own_s2 x y else 0) else own_s2 x y
def own_same (x y : Int32) : Int32 := if own_f2 x = own_f2 y then own_s1 x y else 0
theorem own_same_eq (x y : Int32) : own_same x y = if own_str x = own_str y then 1 else 0 := by
  rcases own_len4 x with hx | hx | hx | hx <;> rcases own_len4 y with hy | hy | hy | hy <;> simp [own_same, own_s1, own_s2, own_s3, own_str, hx, hy]
  all_goals first | done | (repeat' split) <;> simp_all
def own_eq2 (a b c d : List Int32) : Int32 := if a = b then (if c = d then 1 else 0) else 0
theorem own_wide {c : Int32} (h : ¬ c < 0 ∧ ¬ (255 : Int32) < c) : ¬ c < 0 ∧ ¬ (65535 : Int32) < c := by
  have e1 : (255 : Int32).toInt = 255 := by decide
  have e2 : (65535 : Int32).toInt = 65535 := by decide
  rw [Int32.lt_iff_toInt_lt, Int32.lt_iff_toInt_lt] at *
  omega
theorem own_noTN {Z : State} {a0 : Array Value} (hw : ∀ d ∈ tables_1, d.before a0 Z = true) : ∃ c t, Z.vm.findClass "java/lang/String" = some c ∧ Z.vm.findClass "com/example/vertumnus/vertumnus/TableName" = some t ∧ Z.vm.assignable c t = false := by
  obtain ⟨t, k', g0, g2, g5, g7, -, -⟩ := Cond.instantiable_spec (show (Jvm.Cond.instantiable "com/example/vertumnus/vertumnus/TableName" 2).before a0 Z = true from (hw _ (List.mem_of_getElem? (i := 1) rfl)))
  have wS : (Jvm.Cond.superclass "java/lang/String" "java/lang/Object").before a0 Z = true := (hw _ (List.mem_of_getElem? (i := 81) rfl))
  obtain ⟨o, ko, r1, r2, r3, -, -⟩ := Cond.noSuperclass_spec (show (Jvm.Cond.noSuperclass "java/lang/Object").before a0 Z = true from (hw _ (List.mem_of_getElem? (i := 82) rfl)))
  have g8 : k'.isInterface = false := by simp only [Bool.or_eq_false_iff] at g7; exact g7.1
  have ne2 := ids_ne r1 g0 (by decide)
  have n0 : NS Z "java/lang/Object" "com/example/vertumnus/vertumnus/TableName" := ⟨o, t, r1, g0, fun fuel => by
    cases fuel with
    | zero => rfl
    | succ f => simp [Vm.isSubclassAux, ne2, r2, r3]⟩
  obtain ⟨c, t', h0, g0', n3⟩ := NS.step wS n0 (by decide)
  cases g0.symm.trans g0'
  obtain ⟨p, k, kp, h1, h2, h3, h4, h5, -, h7⟩ := Cond.superclass_spec h0 wS
  have ne := ids_ne h0 g0 (by decide)
  refine ⟨c, t, h0, g0, ?_⟩
  show Z.vm.assignableAux (255 + 1) c t = false
  simp [Vm.assignableAux, ne, h2, g2, h5, g5, g8, Vm.isSubclass, n3]

def Qrm11 (Z : State) (a1 : Addr) (a2 : Addr) (h0 : Heap) (n0 : Nat) (v : Option Value) (h : Heap) (L : List Loc) : Prop := v = some (.ref a1) ∧ Fr n0 L ∧ h = h0
theorem d11_0 : decode jdk_31_method_11_code 0 = .ok (.aload_n 0, 1) := by decide +kernel
theorem d11_1 : decode jdk_31_method_11_code 1 = .ok (.ifnonnull 12, 3) := by decide +kernel
theorem d11_13 : decode jdk_31_method_11_code 13 = .ok (.aload_n 0, 1) := by decide +kernel
theorem d11_14 : decode jdk_31_method_11_code 14 = .ok (.areturn, 1) := by decide +kernel
theorem ef_11 (m : MethodId) (x0 : Addr) (x1 : Addr) : entryFrame m #[(.ref x0), (.ref x1)] 2 = mkF m 0 #[.val (.ref x0), .val (.ref x1)] [] := by first | (simp [entryFrame, mkF, argsToLocals, Value.category]; done) | rfl
set_option maxRecDepth 65536 in
set_option maxHeartbeats 40000000 in
theorem rm11 (l : Launch) (Z : State) (a0 : Array Value) (hw : ∀ d ∈ tables_1, d.before a0 Z = true) (ws : List Jvm.Cond) (a1 : Addr) (a2 : Addr) (h0 : Heap) (n0 : Nat) (Z0 : n0 ≤ h0.size) :
    MetFree l (⟨"java/util/Objects", "requireNonNull", "(Ljava/lang/Object;Ljava/lang/String;)Ljava/lang/Object;"⟩ : MethodName) (head1 (Jvm.Cond.code (⟨"java/util/Objects", "requireNonNull", "(Ljava/lang/Object;Ljava/lang/String;)Ljava/lang/Object;"⟩ : MethodName) jdk_31_method_11_code 2 (some (.object "java/lang/Object")) :: ws) ({ frames := 0, cells := 0, slots := 0, locals := 0 } : Room)) (fun a U => a = #[(.ref a1), (.ref a2)] ∧ Z.Warmed39 U.vm ∧ U.heap = h0) (fun _ _ _ _ _ => True) (fun _ U o U' => ∃ v L, o = .returned v ∧ Qrm11 Z a1 a2 h0 n0 v U'.heap L ∧ FrameEnd U o U' L ({ frames := 0, cells := 0, slots := 0, locals := 0 } : Room).cells ({ frames := 0, cells := 0, slots := 0, locals := 0 } : Room).slots) := by
  refine MetFree.of_bodySF (plainFor_of_name pn_2) hisR ?_
  intro p e s m args below meth c s₁ Bd hml0 hP hK
  obtain ⟨rfl, hZ, hh⟩ := hP
  have hx := Bd.exec
  have hby := Bd.bytes
  have hml : c.maxLocals = 2 := hml0
  have hown : s.vm.findClass "java/util/Objects" = some m.cls := findClass_of_methodNamed Bd.named
  have hnm := (name_of_methodNamed Bd.named Bd.method).1
  have X0 : Stand p l e ({ frames := 0, cells := 0, slots := 0, locals := 0 } : Room) s m #[(.ref a1), (.ref a2)] below meth c s₁ [] 0 0 := Stand.of_body Bd
  have e0 : s₁.heap = h0 := by rw [← hh, Bd.state]; rfl
  have N0 := Fr.nil n0
  have pre0 : ∀ t, Steps p.tables e below (s₁.setTop (mkF m 0 #[.val (.ref a1), .val (.ref a2)] [])) t → Steps p.tables e below (s₁.setTop (entryFrame m #[(.ref a1), (.ref a2)] 2)) t := fun t k => castTop (ef_11 m a1 a2) k
  have pre1 : ∀ t, Steps p.tables e below (s₁.setTop (mkF m 1 #[.val (.ref a1), .val (.ref a2)] [(.ref a1)])) t → Steps p.tables e below (s₁.setTop (entryFrame m #[(.ref a1), (.ref a2)] 2)) t := by
    intro t kt
    refine pre0 t ?_
    show Steps p.tables e below (s₁.setTop (mkF m 0 #[.val (.ref a1), .val (.ref a2)] [])) _
    refine XS.aloadN X0.here hx rfl (hb hby d11_0) rfl rfl ?_
    exact kt
  have pre2 : ∀ t, Steps p.tables e below (s₁.setTop (mkF m 13 #[.val (.ref a1), .val (.ref a2)] [])) t → Steps p.tables e below (s₁.setTop (entryFrame m #[(.ref a1), (.ref a2)] 2)) t := fun t kt => pre1 t (XS.ifnonnullYes X0.here hx rfl (pc0 := 1) (pc' := 13) rfl (hb hby d11_1) rfl (by decide) (by decide) kt)
  have pre3 : ∀ t, Steps p.tables e below (s₁.setTop (mkF m 14 #[.val (.ref a1), .val (.ref a2)] [(.ref a1)])) t → Steps p.tables e below (s₁.setTop (entryFrame m #[(.ref a1), (.ref a2)] 2)) t := by
    intro t kt
    refine pre2 t ?_
    show Steps p.tables e below (s₁.setTop (mkF m 13 #[.val (.ref a1), .val (.ref a2)] [])) _
    refine XS.aloadN X0.here hx rfl (hb hby d11_13) rfl rfl ?_
    exact kt
  obtain ⟨fs, hr, hrun, hended, hW, hsame⟩ := X0.leave (v := some (.ref a1)) (fun h => by rw [Bd.returns] at h; cases h)
  refine ⟨_, _, pre3 _ ?_, hrun, hended, _, _, rfl, ?_, ⟨_, rfl⟩, hW, hsame.mono (by decide) (by decide)⟩
  · show Steps p.tables e below (s₁.setTop (mkF m 14 #[.val (.ref a1), .val (.ref a2)] [(.ref a1)])) _
    jvm_step X0.here [X0.here.top, hx, (hb hby d11_14), X0.method', Bd.returns, Value.isRef, FieldType.isReference]
    first | (intro acts; rw [hr _ acts rfl rfl rfl]) | rw [hr _ _ rfl rfl rfl]
    exact Steps.refl _
  · show Qrm11 Z a1 a2 h0 n0 _ s₁.heap _
    rw [e0]
    exact ⟨rfl, N0, rfl⟩
def Qrm10 (Z : State) (a1 : Addr) (a2 : Addr) (a3 : Addr) (h0 : Heap) (n0 : Nat) (v : Option Value) (h : Heap) (L : List Loc) : Prop := v = none ∧ Fr n0 L ∧ Keep h0 h [a1] ∧ Exa Z h a1 "com/example/vertumnus/vertumnus/TableName" ∧ Fld Z h a1 "com/example/vertumnus/vertumnus/TableName" "schema" "Ljava/lang/String;" (.ref a2) ∧ Fld Z h a1 "com/example/vertumnus/vertumnus/TableName" "name" "Ljava/lang/String;" (.ref a3)
theorem d10_0 : decode prog_8_method_1_code 0 = .ok (.aload_n 0, 1) := by decide +kernel
theorem d10_1 : decode prog_8_method_1_code 1 = .ok (.invokespecial 1, 3) := by decide +kernel
theorem d10_4 : decode prog_8_method_1_code 4 = .ok (.aload_n 0, 1) := by decide +kernel
theorem d10_5 : decode prog_8_method_1_code 5 = .ok (.aload_n 1, 1) := by decide +kernel
theorem d10_6 : decode prog_8_method_1_code 6 = .ok (.ldc 7, 2) := by decide +kernel
theorem d10_8 : decode prog_8_method_1_code 8 = .ok (.invokestatic 9, 3) := by decide +kernel
theorem d10_11 : decode prog_8_method_1_code 11 = .ok (.checkcast 15, 3) := by decide +kernel
theorem d10_14 : decode prog_8_method_1_code 14 = .ok (.putfield 17, 3) := by decide +kernel
theorem d10_17 : decode prog_8_method_1_code 17 = .ok (.aload_n 0, 1) := by decide +kernel
theorem d10_18 : decode prog_8_method_1_code 18 = .ok (.aload_n 2, 1) := by decide +kernel
theorem d10_19 : decode prog_8_method_1_code 19 = .ok (.ldc 22, 2) := by decide +kernel
theorem d10_21 : decode prog_8_method_1_code 21 = .ok (.invokestatic 9, 3) := by decide +kernel
theorem d10_24 : decode prog_8_method_1_code 24 = .ok (.checkcast 15, 3) := by decide +kernel
theorem d10_27 : decode prog_8_method_1_code 27 = .ok (.putfield 24, 3) := by decide +kernel
theorem d10_30 : decode prog_8_method_1_code 30 = .ok (.return_, 1) := by decide +kernel
theorem ef_10 (m : MethodId) (x0 : Addr) (x1 : Addr) (x2 : Addr) : entryFrame m #[(.ref x0), (.ref x1), (.ref x2)] 3 = mkF m 0 #[.val (.ref x0), .val (.ref x1), .val (.ref x2)] [] := by first | (simp [entryFrame, mkF, argsToLocals, Value.category]; done) | rfl
set_option maxRecDepth 65536 in
set_option maxHeartbeats 40000000 in
theorem rm10 (l : Launch) (Z : State) (a0 : Array Value) (hw : ∀ d ∈ tables_1, d.before a0 Z = true) (ws : List Jvm.Cond) (a1 : Addr) (a2 : Addr) (a3 : Addr) (h0 : Heap) (n0 : Nat) (Z0 : n0 ≤ h0.size) (E_a1 : Exa Z h0 a1 "com/example/vertumnus/vertumnus/TableName") (F_schema_a1 : Fld Z h0 a1 "com/example/vertumnus/vertumnus/TableName" "schema" "Ljava/lang/String;" .null) (F_name_a1 : Fld Z h0 a1 "com/example/vertumnus/vertumnus/TableName" "name" "Ljava/lang/String;" .null) (E_a2 : Exa Z h0 a2 "java/lang/String") (E_a3 : Exa Z h0 a3 "java/lang/String") (ge_a1 : n0 ≤ a1) :
    MetFree l (⟨"com/example/vertumnus/vertumnus/TableName", "<init>", "(Ljava/lang/String;Ljava/lang/String;)V"⟩ : MethodName) (head1 (Jvm.Cond.code (⟨"com/example/vertumnus/vertumnus/TableName", "<init>", "(Ljava/lang/String;Ljava/lang/String;)V"⟩ : MethodName) prog_8_method_1_code 3 none :: ws) ({ frames := 1, cells := 4, slots := 48, locals := 14 } : Room)) (fun a U => a = #[(.ref a1), (.ref a2), (.ref a3)] ∧ Z.Warmed39 U.vm ∧ U.heap = h0 ∧ CHv Z EL U.vm h0) (fun _ _ _ _ _ => True) (fun _ U o U' => ∃ v L, o = .returned v ∧ Qrm10 Z a1 a2 a3 h0 n0 v U'.heap L ∧ CHr Z EL U.vm U.heap U'.vm U'.heap ∧ ReturnedEndW U o U' L ({ frames := 1, cells := 4, slots := 48, locals := 14 } : Room).cells ({ frames := 1, cells := 4, slots := 48, locals := 14 } : Room).slots) := by
  refine MetFree.of_bodySF (plainFor_of_name pn_3) hisR ?_
  intro p e s m args below meth c s₁ Bd hml0 hP hK
  obtain ⟨rfl, hZ, hh, hCH⟩ := hP
  have hS0 : s.Since s.vm 0 := (State.WarmedH.refl s).since 0
  have CR0 : CHr Z EL s.vm h0 s.vm h0 := CHr.refl hCH
  have hx := Bd.exec
  have hby := Bd.bytes
  have hml : c.maxLocals = 3 := hml0
  have hown : s.vm.findClass "com/example/vertumnus/vertumnus/TableName" = some m.cls := findClass_of_methodNamed Bd.named
  have hnm := (name_of_methodNamed Bd.named Bd.method).1
  have X0 : Stand p l e ({ frames := 1, cells := 4, slots := 48, locals := 14 } : Room) s m #[(.ref a1), (.ref a2), (.ref a3)] below meth c s₁ [] 0 0 := Stand.of_body Bd
  have e0 : s₁.heap = h0 := by rw [← hh, Bd.state]; rfl
  have N0 := Fr.nil n0
  have pre0 : ∀ t, Steps p.tables e below (s₁.setTop (mkF m 0 #[.val (.ref a1), .val (.ref a2), .val (.ref a3)] [])) t → Steps p.tables e below (s₁.setTop (entryFrame m #[(.ref a1), (.ref a2), (.ref a3)] 3)) t := fun t k => castTop (ef_10 m a1 a2 a3) k
  have hEL : EW Z a0 EL := own_EW hw
  have wS : ∀ a ∈ Bundle.stringAtoms, a.before a0 Z = true := fun d hd => hw d ((by decide +kernel : ∀ d ∈ Bundle.stringAtoms, d ∈ tables_1) d hd)
  have pre1 : ∀ t, Steps p.tables e below (s₁.setTop (mkF m 1 #[.val (.ref a1), .val (.ref a2), .val (.ref a3)] [(.ref a1)])) t → Steps p.tables e below (s₁.setTop (entryFrame m #[(.ref a1), (.ref a2), (.ref a3)] 3)) t := by
    intro t kt
    refine pre0 t ?_
    show Steps p.tables e below (s₁.setTop (mkF m 0 #[.val (.ref a1), .val (.ref a2), .val (.ref a3)] [])) _
    refine XS.aloadN X0.here hx rfl (hb hby d10_0) rfl rfl ?_
    exact kt
  obtain ⟨T2, X2, e2, st2⟩ := initO X0 hx hZ hown (hw _ (List.mem_of_getElem? (i := 49) rfl)) (hw _ (List.mem_of_getElem? (i := 22) rfl)) (hw _ (List.mem_of_getElem? (i := 23) rfl)) e0 (g := (mkF m 1 #[.val (.ref a1), .val (.ref a2), .val (.ref a3)] [(.ref a1)])) rfl (by rw [hml]; rfl) rfl (hb hby d10_1) (by decide) (W := 0) (by show 2 * 0 + _ ≤ _; exact Nat.le_of_eq rfl) (by decide)
  have pre2 : ∀ t, Steps p.tables e below (T2.setTop (mkF m 4 #[.val (.ref a1), .val (.ref a2), .val (.ref a3)] [])) t → Steps p.tables e below (s₁.setTop (entryFrame m #[(.ref a1), (.ref a2), (.ref a3)] 3)) t := fun t kt => pre1 t (st2 _ kt)
  have pre3 : ∀ t, Steps p.tables e below (T2.setTop (mkF m 6 #[.val (.ref a1), .val (.ref a2), .val (.ref a3)] [(.ref a2), (.ref a1)])) t → Steps p.tables e below (s₁.setTop (entryFrame m #[(.ref a1), (.ref a2), (.ref a3)] 3)) t := by
    intro t kt
    refine pre2 t ?_
    show Steps p.tables e below (T2.setTop (mkF m 4 #[.val (.ref a1), .val (.ref a2), .val (.ref a3)] [])) _
    refine XS.aloadN X2.here hx rfl (hb hby d10_4) rfl rfl ?_
    show Steps p.tables e below (T2.setTop (mkF m 5 #[.val (.ref a1), .val (.ref a2), .val (.ref a3)] [(.ref a1)])) _
    refine XS.aloadN X2.here hx rfl (hb hby d10_5) rfl rfl ?_
    exact kt
  obtain ⟨a4, T4, h4, k4, b4, kb4, X4, e4, E4, hS4, hk4, hZ, hown, A4, C4, F4, V4, la4, lb4, CQ4, Li4, sf4, st4⟩ := ldcCH (s := s) (vm0 := s.vm) (text := own_t50) X2 hx hZ hown (hw _ (List.mem_of_getElem? (i := 50) rfl)) wS e2 hS0 (Nat.zero_le _) hEL own_mem50 CR0.1 (vs := (own_cs50.map fun c => c.toInt8.toInt32).map Value.int) (z := (6 : Int32)) own_ht50 (by decide) (by decide +kernel) (g := (mkF m 6 #[.val (.ref a1), .val (.ref a2), .val (.ref a3)] [(.ref a2), (.ref a1)])) rfl (hb hby d10_6) (n := 24) (by decide +kernel) (by decide) (by decide) (by decide)
  have K4 : Keep h0 h4 [a1] := (Keep.refl h0 [a1]).ext E4
  have Z4 : n0 ≤ h4.size := Nat.le_trans Z0 E4.1
  have mo4_0 := Nat.le_trans (Nat.zero_le _) E4.1
  have E_a1_5 := E_a1.ext E4
  have F_schema_a1_6 := F_schema_a1.ext E4
  have F_name_a1_7 := F_name_a1.ext E4
  have E_a2_8 := E_a2.ext E4
  have E_a3_9 := E_a3.ext E4
  have CR4 := CR0.trans CQ4
  have pre4 : ∀ t, Steps p.tables e below (T4.setTop (mkF m 8 #[.val (.ref a1), .val (.ref a2), .val (.ref a3)] [(.ref a4), (.ref a2), (.ref a1)])) t → Steps p.tables e below (s₁.setTop (entryFrame m #[(.ref a1), (.ref a2), (.ref a3)] 3)) t := fun t kt => pre3 t (st4 _ kt)
  obtain ⟨_, _, ⟨T10, L10, k10, n10⟩, -, X10, ⟨Lc10, hQ10, l10, y10, z10⟩, st10⟩ := Jvm.LawKit.callS X4 hx (y := (⟨"java/util/Objects", "requireNonNull", "(Ljava/lang/Object;Ljava/lang/String;)Ljava/lang/Object;"⟩ : MethodName)) hown (mvT hZ (hw _ (List.mem_of_getElem? (i := 51) rfl))) (mvT hZ (hw _ (List.mem_of_getElem? (i := 52) rfl))) (mvT hZ (hw _ (List.mem_of_getElem? (i := 53) rfl))) (mvT hZ (hw _ (List.mem_of_getElem? (i := 54) rfl))) (by decide) (backOf (W := 1) (rm11 l Z a0 hw [] a2 a4 h4 n0 Z4) hZ (hw _ (List.mem_of_getElem? (i := 54) rfl)) (hw _ (List.mem_of_getElem? (i := 53) rfl)) (by decide) (by decide)) (g := (mkF m 8 #[.val (.ref a1), .val (.ref a2), .val (.ref a3)] [(.ref a4), (.ref a2), (.ref a1)])) rfl (by rw [hml]; rfl) (argsL := [(.ref a2), (.ref a4)]) (rest := [(.ref a1)]) (lenOf pd_4 rfl) rfl (by show 2 * 0 + _ ≤ _; exact Nat.le_of_eq rfl) (hb hby d10_8) (fun _ _ => ⟨rfl, e4, (by decide : 2 + 0 ≤ _), (by decide : 28 + 0 ≤ _)⟩)
  dsimp only [Pt.U, Pt.locs, Pt.cells, Pt.slots] at X10 l10 y10 z10 st10 hQ10
  subst l10 y10 z10
  obtain ⟨rfl, N10q, e10⟩ := hQ10
  have N10 := Fr.app N0 N10q
  have pre10 : ∀ t, Steps p.tables e below (T10.setTop (mkF m 11 #[.val (.ref a1), .val (.ref a2), .val (.ref a3)] [(.ref a2), (.ref a1)])) t → Steps p.tables e below (s₁.setTop (entryFrame m #[(.ref a1), (.ref a2), (.ref a3)] 3)) t := fun t kt => pre4 t (st10 _ kt)
  obtain ⟨T11, X11, e11, st11⟩ := castY X10 hx hZ hown (hw _ (List.mem_of_getElem? (i := 55) rfl)) e10 (Ins.self E_a2_8) (g := (mkF m 11 #[.val (.ref a1), .val (.ref a2), .val (.ref a3)] [(.ref a2), (.ref a1)])) rfl rfl (hb hby d10_11)
  have pre11 : ∀ t, Steps p.tables e below (T11.setTop (mkF m 14 #[.val (.ref a1), .val (.ref a2), .val (.ref a3)] [(.ref a2), (.ref a1)])) t → Steps p.tables e below (s₁.setTop (entryFrame m #[(.ref a1), (.ref a2), (.ref a3)] 3)) t := fun t kt => pre10 t (st11 _ kt)
  obtain ⟨T12, h12, X12, e12, W12, st12⟩ := putF X11 hx hZ hown (host := "") (Or.inl (hw _ (List.mem_of_getElem? (i := 56) rfl))) Via.refl e11 F_schema_a1_6 E_a1_5 (Or.inr ⟨(hw _ (List.mem_of_getElem? (i := 57) rfl)), rfl, hnm⟩) (hw _ (List.mem_of_getElem? (i := 1) rfl)) (ty := (.object "java/lang/String")) (by decide) rfl rfl (g := (mkF m 14 #[.val (.ref a1), .val (.ref a2), .val (.ref a3)] [(.ref a2), (.ref a1)])) rfl rfl (hb hby d10_14)
  have N12 := Fr.snoc X12 N10 ge_a1
  have K12 : Keep h0 h12 [a1] := K4.wr W12 (Or.inl (List.mem_of_getElem? (i := 0) rfl))
  have Z12 : n0 ≤ h12.size := Nat.le_trans Z4 (Keep.of_wr W12).1
  have mo12_0 := Nat.le_trans hk4 (Keep.of_wr W12).1
  have CR12 := CR4.trans (CHr.wr W12 (Safe.exa (hZ.alike) E_a1_5 (by decide) (by decide)) CR4.1)
  have E_a1_13 := E_a1_5.wr W12
  have F_schema_a1_14 := F_schema_a1_6.same W12
  have F_name_a1_15 := F_name_a1_7.other W12 (Or.inr (slot_ne (Or.inr (hw _ (List.mem_of_getElem? (i := 60) rfl))) (Or.inr (hw _ (List.mem_of_getElem? (i := 57) rfl))) (by decide) (t := (.object "java/lang/String")) (t' := (.object "java/lang/String")) (by decide) (by decide)))
  have E_a2_16 := E_a2_8.wr W12
  have E_a3_17 := E_a3_9.wr W12
  have pre12 : ∀ t, Steps p.tables e below (T12.setTop (mkF m 17 #[.val (.ref a1), .val (.ref a2), .val (.ref a3)] [])) t → Steps p.tables e below (s₁.setTop (entryFrame m #[(.ref a1), (.ref a2), (.ref a3)] 3)) t := fun t kt => pre11 t (st12 _ kt)
  have pre18 : ∀ t, Steps p.tables e below (T12.setTop (mkF m 19 #[.val (.ref a1), .val (.ref a2), .val (.ref a3)] [(.ref a3), (.ref a1)])) t → Steps p.tables e below (s₁.setTop (entryFrame m #[(.ref a1), (.ref a2), (.ref a3)] 3)) t := by
    intro t kt
    refine pre12 t ?_
    show Steps p.tables e below (T12.setTop (mkF m 17 #[.val (.ref a1), .val (.ref a2), .val (.ref a3)] [])) _
    refine XS.aloadN X12.here hx rfl (hb hby d10_17) rfl rfl ?_
    show Steps p.tables e below (T12.setTop (mkF m 18 #[.val (.ref a1), .val (.ref a2), .val (.ref a3)] [(.ref a1)])) _
    refine XS.aloadN X12.here hx rfl (hb hby d10_18) rfl rfl ?_
    exact kt
  obtain ⟨a19, T19, h19, k19, b19, kb19, X19, e19, E19, hS19, hk19, hZ, hown, A19, C19, F19, V19, la19, lb19, CQ19, Li19, sf19, st19⟩ := ldcCH (s := s) (vm0 := T4.vm) (text := own_t58) X12 hx hZ hown (hw _ (List.mem_of_getElem? (i := 58) rfl)) wS e12 hS4 mo12_0 hEL own_mem58 CR12.1 (vs := (own_cs58.map fun c => c.toInt8.toInt32).map Value.int) (z := (4 : Int32)) own_ht58 (by decide) (by decide +kernel) (g := (mkF m 19 #[.val (.ref a1), .val (.ref a2), .val (.ref a3)] [(.ref a3), (.ref a1)])) rfl (hb hby d10_19) (n := 16) (by decide +kernel) (by decide) (by decide) (by decide)
  have K19 : Keep h0 h19 [a1] := K12.ext E19
  have Z19 : n0 ≤ h19.size := Nat.le_trans Z12 E19.1
  have mo19_0 := Nat.le_trans mo12_0 E19.1
  have E_a1_20 := E_a1_13.ext E19
  have F_schema_a1_21 := F_schema_a1_14.ext E19
  have F_name_a1_22 := F_name_a1_15.ext E19
  have E_a2_23 := E_a2_16.ext E19
  have E_a3_24 := E_a3_17.ext E19
  have CR19 := CR12.trans CQ19
  have pre19 : ∀ t, Steps p.tables e below (T19.setTop (mkF m 21 #[.val (.ref a1), .val (.ref a2), .val (.ref a3)] [(.ref a19), (.ref a3), (.ref a1)])) t → Steps p.tables e below (s₁.setTop (entryFrame m #[(.ref a1), (.ref a2), (.ref a3)] 3)) t := fun t kt => pre18 t (st19 _ kt)
  obtain ⟨_, _, ⟨T25, L25, k25, n25⟩, -, X25, ⟨Lc25, hQ25, l25, y25, z25⟩, st25⟩ := Jvm.LawKit.callS X19 hx (y := (⟨"java/util/Objects", "requireNonNull", "(Ljava/lang/Object;Ljava/lang/String;)Ljava/lang/Object;"⟩ : MethodName)) hown (mvT hZ (hw _ (List.mem_of_getElem? (i := 51) rfl))) (mvT hZ (hw _ (List.mem_of_getElem? (i := 52) rfl))) (mvT hZ (hw _ (List.mem_of_getElem? (i := 53) rfl))) (mvT hZ (hw _ (List.mem_of_getElem? (i := 54) rfl))) (by decide) (backOf (W := 1) (rm11 l Z a0 hw [] a3 a19 h19 n0 Z19) hZ (hw _ (List.mem_of_getElem? (i := 54) rfl)) (hw _ (List.mem_of_getElem? (i := 53) rfl)) (by decide) (by decide)) (g := (mkF m 21 #[.val (.ref a1), .val (.ref a2), .val (.ref a3)] [(.ref a19), (.ref a3), (.ref a1)])) rfl (by rw [hml]; rfl) (argsL := [(.ref a3), (.ref a19)]) (rest := [(.ref a1)]) (lenOf pd_4 rfl) rfl (by show 2 * 0 + _ ≤ _; exact Nat.le_of_eq rfl) (hb hby d10_21) (fun _ _ => ⟨rfl, e19, (by decide : 4 + 0 ≤ _), (by decide : 48 + 0 ≤ _)⟩)
  dsimp only [Pt.U, Pt.locs, Pt.cells, Pt.slots] at X25 l25 y25 z25 st25 hQ25
  subst l25 y25 z25
  obtain ⟨rfl, N25q, e25⟩ := hQ25
  have N25 := Fr.app N12 N25q
  have pre25 : ∀ t, Steps p.tables e below (T25.setTop (mkF m 24 #[.val (.ref a1), .val (.ref a2), .val (.ref a3)] [(.ref a3), (.ref a1)])) t → Steps p.tables e below (s₁.setTop (entryFrame m #[(.ref a1), (.ref a2), (.ref a3)] 3)) t := fun t kt => pre19 t (st25 _ kt)
  obtain ⟨T26, X26, e26, st26⟩ := castY X25 hx hZ hown (hw _ (List.mem_of_getElem? (i := 55) rfl)) e25 (Ins.self E_a3_24) (g := (mkF m 24 #[.val (.ref a1), .val (.ref a2), .val (.ref a3)] [(.ref a3), (.ref a1)])) rfl rfl (hb hby d10_24)
  have pre26 : ∀ t, Steps p.tables e below (T26.setTop (mkF m 27 #[.val (.ref a1), .val (.ref a2), .val (.ref a3)] [(.ref a3), (.ref a1)])) t → Steps p.tables e below (s₁.setTop (entryFrame m #[(.ref a1), (.ref a2), (.ref a3)] 3)) t := fun t kt => pre25 t (st26 _ kt)
  obtain ⟨T27, h27, X27, e27, W27, st27⟩ := putF X26 hx hZ hown (host := "") (Or.inl (hw _ (List.mem_of_getElem? (i := 59) rfl))) Via.refl e26 F_name_a1_22 E_a1_20 (Or.inr ⟨(hw _ (List.mem_of_getElem? (i := 60) rfl)), rfl, hnm⟩) (hw _ (List.mem_of_getElem? (i := 1) rfl)) (ty := (.object "java/lang/String")) (by decide) rfl rfl (g := (mkF m 27 #[.val (.ref a1), .val (.ref a2), .val (.ref a3)] [(.ref a3), (.ref a1)])) rfl rfl (hb hby d10_27)
  have N27 := Fr.snoc X27 N25 ge_a1
  have K27 : Keep h0 h27 [a1] := K19.wr W27 (Or.inl (List.mem_of_getElem? (i := 0) rfl))
  have Z27 : n0 ≤ h27.size := Nat.le_trans Z19 (Keep.of_wr W27).1
  have mo27_0 := Nat.le_trans hk19 (Keep.of_wr W27).1
  have CR27 := CR19.trans (CHr.wr W27 (Safe.exa (hZ.alike) E_a1_20 (by decide) (by decide)) CR19.1)
  have E_a1_28 := E_a1_20.wr W27
  have F_schema_a1_29 := F_schema_a1_21.other W27 (Or.inr (slot_ne (Or.inr (hw _ (List.mem_of_getElem? (i := 57) rfl))) (Or.inr (hw _ (List.mem_of_getElem? (i := 60) rfl))) (by decide) (t := (.object "java/lang/String")) (t' := (.object "java/lang/String")) (by decide) (by decide)))
  have F_name_a1_30 := F_name_a1_22.same W27
  have E_a2_31 := E_a2_23.wr W27
  have E_a3_32 := E_a3_24.wr W27
  have pre27 : ∀ t, Steps p.tables e below (T27.setTop (mkF m 30 #[.val (.ref a1), .val (.ref a2), .val (.ref a3)] [])) t → Steps p.tables e below (s₁.setTop (entryFrame m #[(.ref a1), (.ref a2), (.ref a3)] 3)) t := fun t kt => pre26 t (st27 _ kt)
  obtain ⟨fs, hr, hrun, hended, hEnd⟩ := X27.leaveW (s := s) (vm₁ := T19.vm) hS19 (by rw [e27]; exact mo27_0) (v := none) (fun _ => rfl)
  refine ⟨_, _, pre27 _ ?_, hrun, hended, _, _, rfl, ?_, (by rw [hh]; exact CR27.trans (by rw [show (T27.setFrames fs).heap = h27 from e27]; exact (show CHr Z EL T19.vm h27 T27.vm h27 from CHv.at (s := s) (vm0 := T19.vm) X27 hZ hEL CR27.1))), hEnd.1, hEnd.2.1, hEnd.2.2.1, hEnd.2.2.2.mono (by decide) (by decide)⟩
  · show Steps p.tables e below (T27.setTop (mkF m 30 #[.val (.ref a1), .val (.ref a2), .val (.ref a3)] [])) _
    exact X27.returnOut hx Bd.returns (hb hby d10_30) hr
  · show Qrm10 Z a1 a2 a3 h0 n0 _ T27.heap _
    rw [e27]
    exact ⟨rfl, N27, K27, E_a1_28, F_schema_a1_29, F_name_a1_30⟩
def Qrm12 (Z : State) (p1 : Int32) (p2 : Int32) (h0 : Heap) (n0 : Nat) (v : Option Value) (h : Heap) (L : List Loc) : Prop := v = some (.int (own_same p1 p2)) ∧ Fr n0 L ∧ h = h0
theorem d12_0 : decode method_5_code 0 = .ok (.iload_n 0, 1) := by decide +kernel
theorem d12_1 : decode method_5_code 1 = .ok (.invokestatic 7, 3) := by decide +kernel
theorem d12_4 : decode method_5_code 4 = .ok (.istore_n 2, 1) := by decide +kernel
theorem d12_5 : decode method_5_code 5 = .ok (.iload_n 1, 1) := by decide +kernel
theorem d12_6 : decode method_5_code 6 = .ok (.invokestatic 7, 3) := by decide +kernel
theorem d12_9 : decode method_5_code 9 = .ok (.istore_n 3, 1) := by decide +kernel
theorem d12_10 : decode method_5_code 10 = .ok (.iload_n 2, 1) := by decide +kernel
theorem d12_11 : decode method_5_code 11 = .ok (.iload_n 3, 1) := by decide +kernel
theorem d12_12 : decode method_5_code 12 = .ok (.if_icmp .eq 5, 3) := by decide +kernel
theorem d12_15 : decode method_5_code 15 = .ok (.iconst 0, 1) := by decide +kernel
theorem d12_16 : decode method_5_code 16 = .ok (.ireturn, 1) := by decide +kernel
theorem d12_17 : decode method_5_code 17 = .ok (.iload_n 2, 1) := by decide +kernel
theorem d12_18 : decode method_5_code 18 = .ok (.ifCond .le 18, 3) := by decide +kernel
theorem d12_21 : decode method_5_code 21 = .ok (.iload_n 0, 1) := by decide +kernel
theorem d12_22 : decode method_5_code 22 = .ok (.iconst 0, 1) := by decide +kernel
theorem d12_23 : decode method_5_code 23 = .ok (.invokestatic 13, 3) := by decide +kernel
theorem d12_26 : decode method_5_code 26 = .ok (.iload_n 1, 1) := by decide +kernel
theorem d12_27 : decode method_5_code 27 = .ok (.iconst 0, 1) := by decide +kernel
theorem d12_28 : decode method_5_code 28 = .ok (.invokestatic 13, 3) := by decide +kernel
theorem d12_31 : decode method_5_code 31 = .ok (.if_icmp .eq 5, 3) := by decide +kernel
theorem d12_34 : decode method_5_code 34 = .ok (.iconst 0, 1) := by decide +kernel
theorem d12_35 : decode method_5_code 35 = .ok (.ireturn, 1) := by decide +kernel
theorem d12_36 : decode method_5_code 36 = .ok (.iload_n 2, 1) := by decide +kernel
theorem d12_37 : decode method_5_code 37 = .ok (.iconst 1, 1) := by decide +kernel
theorem d12_38 : decode method_5_code 38 = .ok (.if_icmp .le 18, 3) := by decide +kernel
theorem d12_41 : decode method_5_code 41 = .ok (.iload_n 0, 1) := by decide +kernel
theorem d12_42 : decode method_5_code 42 = .ok (.iconst 1, 1) := by decide +kernel
theorem d12_43 : decode method_5_code 43 = .ok (.invokestatic 13, 3) := by decide +kernel
theorem d12_46 : decode method_5_code 46 = .ok (.iload_n 1, 1) := by decide +kernel
theorem d12_47 : decode method_5_code 47 = .ok (.iconst 1, 1) := by decide +kernel
theorem d12_48 : decode method_5_code 48 = .ok (.invokestatic 13, 3) := by decide +kernel
theorem d12_51 : decode method_5_code 51 = .ok (.if_icmp .eq 5, 3) := by decide +kernel
theorem d12_54 : decode method_5_code 54 = .ok (.iconst 0, 1) := by decide +kernel
theorem d12_55 : decode method_5_code 55 = .ok (.ireturn, 1) := by decide +kernel
theorem d12_56 : decode method_5_code 56 = .ok (.iload_n 2, 1) := by decide +kernel
theorem d12_57 : decode method_5_code 57 = .ok (.iconst 2, 1) := by decide +kernel
theorem d12_58 : decode method_5_code 58 = .ok (.if_icmp .le 18, 3) := by decide +kernel
theorem d12_61 : decode method_5_code 61 = .ok (.iload_n 0, 1) := by decide +kernel
theorem d12_62 : decode method_5_code 62 = .ok (.iconst 2, 1) := by decide +kernel
theorem d12_63 : decode method_5_code 63 = .ok (.invokestatic 13, 3) := by decide +kernel
theorem d12_66 : decode method_5_code 66 = .ok (.iload_n 1, 1) := by decide +kernel
theorem d12_67 : decode method_5_code 67 = .ok (.iconst 2, 1) := by decide +kernel
theorem d12_68 : decode method_5_code 68 = .ok (.invokestatic 13, 3) := by decide +kernel
theorem d12_71 : decode method_5_code 71 = .ok (.if_icmp .eq 5, 3) := by decide +kernel
theorem d12_74 : decode method_5_code 74 = .ok (.iconst 0, 1) := by decide +kernel
theorem d12_75 : decode method_5_code 75 = .ok (.ireturn, 1) := by decide +kernel
theorem d12_76 : decode method_5_code 76 = .ok (.iconst 1, 1) := by decide +kernel
theorem d12_77 : decode method_5_code 77 = .ok (.ireturn, 1) := by decide +kernel
theorem ef_12 (m : MethodId) (x0 : Int32) (x1 : Int32) : entryFrame m #[(.int x0), (.int x1)] 4 = mkF m 0 #[.val (.int x0), .val (.int x1), .unset, .unset] [] := by first | (simp [entryFrame, mkF, argsToLocals, Value.category]; done) | rfl
set_option maxRecDepth 65536 in
set_option maxHeartbeats 40000000 in
theorem rm12 (l : Launch) (Z : State) (a0 : Array Value) (hw : ∀ d ∈ tables_1, d.before a0 Z = true) (ws : List Jvm.Cond) (p1 : Int32) (p2 : Int32) (h0 : Heap) (n0 : Nat) (Z0 : n0 ≤ h0.size) :
    MetFree l (⟨"com/example/vertumnus/vertumnus/TableNameEqualsPinLaw", "same", "(II)Z"⟩ : MethodName) (head1 (Jvm.Cond.code (⟨"com/example/vertumnus/vertumnus/TableNameEqualsPinLaw", "same", "(II)Z"⟩ : MethodName) method_5_code 4 (some .boolean) :: ws) ({ frames := 1, cells := 0, slots := 0, locals := 14 } : Room)) (fun a U => a = #[(.int p1), (.int p2)] ∧ Z.Warmed39 U.vm ∧ U.heap = h0) (fun _ _ _ _ _ => True) (fun _ U o U' => ∃ v L, o = .returned v ∧ Qrm12 Z p1 p2 h0 n0 v U'.heap L ∧ FrameEnd U o U' L ({ frames := 1, cells := 0, slots := 0, locals := 14 } : Room).cells ({ frames := 1, cells := 0, slots := 0, locals := 14 } : Room).slots) := by
  refine MetFree.of_bodySF (plainFor_of_name pn_0) hisR ?_
  intro p e s m args below meth c s₁ Bd hml0 hP hK
  obtain ⟨rfl, hZ, hh⟩ := hP
  have hx := Bd.exec
  have hby := Bd.bytes
  have hml : c.maxLocals = 4 := hml0
  have hown : s.vm.findClass "com/example/vertumnus/vertumnus/TableNameEqualsPinLaw" = some m.cls := findClass_of_methodNamed Bd.named
  have hnm := (name_of_methodNamed Bd.named Bd.method).1
  have X0 : Stand p l e ({ frames := 1, cells := 0, slots := 0, locals := 14 } : Room) s m #[(.int p1), (.int p2)] below meth c s₁ [] 0 0 := Stand.of_body Bd
  have e0 : s₁.heap = h0 := by rw [← hh, Bd.state]; rfl
  have N0 := Fr.nil n0
  have pre0 : ∀ t, Steps p.tables e below (s₁.setTop (mkF m 0 #[.val (.int p1), .val (.int p2), .unset, .unset] [])) t → Steps p.tables e below (s₁.setTop (entryFrame m #[(.int p1), (.int p2)] 4)) t := fun t k => castTop (ef_12 m p1 p2) k
  have pre1 : ∀ t, Steps p.tables e below (s₁.setTop (mkF m 1 #[.val (.int p1), .val (.int p2), .unset, .unset] [(.int p1)])) t → Steps p.tables e below (s₁.setTop (entryFrame m #[(.int p1), (.int p2)] 4)) t := by
    intro t kt
    refine pre0 t ?_
    show Steps p.tables e below (s₁.setTop (mkF m 0 #[.val (.int p1), .val (.int p2), .unset, .unset] [])) _
    refine XS.iloadN X0.here hx rfl (hb hby d12_0) rfl ?_
    exact kt
  obtain ⟨_, _, ⟨T2, L2, k2, n2⟩, -, X2, ⟨Lc2, hQ2, l2, y2, z2⟩, st2⟩ := Jvm.LawKit.callS X0 hx (y := (⟨"com/example/vertumnus/vertumnus/TableNameEqualsPinLaw", "len", "(I)I"⟩ : MethodName)) hown (mvT hZ (hw _ (List.mem_of_getElem? (i := 7) rfl))) (mvT hZ (hw _ (List.mem_of_getElem? (i := 8) rfl))) (mvT hZ (hw _ (List.mem_of_getElem? (i := 5) rfl))) (mvT hZ (hw _ (List.mem_of_getElem? (i := 9) rfl))) (by decide) (backOf (W := 0) (rm2 l Z a0 hw [] p1 h0 n0) hZ (hw _ (List.mem_of_getElem? (i := 9) rfl)) (hw _ (List.mem_of_getElem? (i := 5) rfl)) (by decide) (by decide)) (g := (mkF m 1 #[.val (.int p1), .val (.int p2), .unset, .unset] [(.int p1)])) rfl (by rw [hml]; rfl) (argsL := [(.int p1)]) (rest := []) (lenOf pd_1 rfl) rfl (by show 2 * 0 + _ ≤ _; exact Nat.le_of_eq rfl) (hb hby d12_1) (fun _ _ => ⟨rfl, e0, (by decide : 0 + 0 ≤ _), (by decide : 0 + 0 ≤ _)⟩)
  dsimp only [Pt.U, Pt.locs, Pt.cells, Pt.slots] at X2 l2 y2 z2 st2 hQ2
  subst l2 y2 z2
  obtain ⟨rfl, N2q, e2⟩ := hQ2
  have N2 := Fr.app N0 N2q
  have pre2 : ∀ t, Steps p.tables e below (T2.setTop (mkF m 4 #[.val (.int p1), .val (.int p2), .unset, .unset] [(.int (own_f2 p1))])) t → Steps p.tables e below (s₁.setTop (entryFrame m #[(.int p1), (.int p2)] 4)) t := fun t kt => pre1 t (st2 _ kt)
  have pre3 : ∀ t, Steps p.tables e below (T2.setTop (mkF m 6 #[.val (.int p1), .val (.int p2), .val (.int (own_f2 p1)), .unset] [(.int p2)])) t → Steps p.tables e below (s₁.setTop (entryFrame m #[(.int p1), (.int p2)] 4)) t := by
    intro t kt
    refine pre2 t ?_
    show Steps p.tables e below (T2.setTop (mkF m 4 #[.val (.int p1), .val (.int p2), .unset, .unset] [(.int (own_f2 p1))])) _
    refine XS.istoreN X2.here hx rfl (hb hby d12_4) rfl (l' := #[.val (.int p1), .val (.int p2), .val (.int (own_f2 p1)), .unset]) rfl ?_
    show Steps p.tables e below (T2.setTop (mkF m 5 #[.val (.int p1), .val (.int p2), .val (.int (own_f2 p1)), .unset] [])) _
    refine XS.iloadN X2.here hx rfl (hb hby d12_5) rfl ?_
    exact kt
  obtain ⟨_, _, ⟨T4, L4, k4, n4⟩, -, X4, ⟨Lc4, hQ4, l4, y4, z4⟩, st4⟩ := Jvm.LawKit.callS X2 hx (y := (⟨"com/example/vertumnus/vertumnus/TableNameEqualsPinLaw", "len", "(I)I"⟩ : MethodName)) hown (mvT hZ (hw _ (List.mem_of_getElem? (i := 7) rfl))) (mvT hZ (hw _ (List.mem_of_getElem? (i := 8) rfl))) (mvT hZ (hw _ (List.mem_of_getElem? (i := 5) rfl))) (mvT hZ (hw _ (List.mem_of_getElem? (i := 9) rfl))) (by decide) (backOf (W := 0) (rm2 l Z a0 hw [] p2 h0 n0) hZ (hw _ (List.mem_of_getElem? (i := 9) rfl)) (hw _ (List.mem_of_getElem? (i := 5) rfl)) (by decide) (by decide)) (g := (mkF m 6 #[.val (.int p1), .val (.int p2), .val (.int (own_f2 p1)), .unset] [(.int p2)])) rfl (by rw [hml]; rfl) (argsL := [(.int p2)]) (rest := []) (lenOf pd_1 rfl) rfl (by show 2 * 0 + _ ≤ _; exact Nat.le_of_eq rfl) (hb hby d12_6) (fun _ _ => ⟨rfl, e2, (by decide : 0 + 0 ≤ _), (by decide : 0 + 0 ≤ _)⟩)
  dsimp only [Pt.U, Pt.locs, Pt.cells, Pt.slots] at X4 l4 y4 z4 st4 hQ4
  subst l4 y4 z4
  obtain ⟨rfl, N4q, e4⟩ := hQ4
  have N4 := Fr.app N2 N4q
  have pre4 : ∀ t, Steps p.tables e below (T4.setTop (mkF m 9 #[.val (.int p1), .val (.int p2), .val (.int (own_f2 p1)), .unset] [(.int (own_f2 p2))])) t → Steps p.tables e below (s₁.setTop (entryFrame m #[(.int p1), (.int p2)] 4)) t := fun t kt => pre3 t (st4 _ kt)
  have pre5 : ∀ t, Steps p.tables e below (T4.setTop (mkF m 12 #[.val (.int p1), .val (.int p2), .val (.int (own_f2 p1)), .val (.int (own_f2 p2))] [(.int (own_f2 p2)), (.int (own_f2 p1))])) t → Steps p.tables e below (s₁.setTop (entryFrame m #[(.int p1), (.int p2)] 4)) t := by
    intro t kt
    refine pre4 t ?_
    show Steps p.tables e below (T4.setTop (mkF m 9 #[.val (.int p1), .val (.int p2), .val (.int (own_f2 p1)), .unset] [(.int (own_f2 p2))])) _
    refine XS.istoreN X4.here hx rfl (hb hby d12_9) rfl (l' := #[.val (.int p1), .val (.int p2), .val (.int (own_f2 p1)), .val (.int (own_f2 p2))]) rfl ?_
    show Steps p.tables e below (T4.setTop (mkF m 10 #[.val (.int p1), .val (.int p2), .val (.int (own_f2 p1)), .val (.int (own_f2 p2))] [])) _
    refine XS.iloadN X4.here hx rfl (hb hby d12_10) rfl ?_
    show Steps p.tables e below (T4.setTop (mkF m 11 #[.val (.int p1), .val (.int p2), .val (.int (own_f2 p1)), .val (.int (own_f2 p2))] [(.int (own_f2 p1))])) _
    refine XS.iloadN X4.here hx rfl (hb hby d12_11) rfl ?_
    exact kt
  by_cases hc12 : (own_f2 p1) = (own_f2 p2)
  · have pre6 : ∀ t, Steps p.tables e below (T4.setTop (mkF m 17 #[.val (.int p1), .val (.int p2), .val (.int (own_f2 p1)), .val (.int (own_f2 p2))] [])) t → Steps p.tables e below (s₁.setTop (entryFrame m #[(.int p1), (.int p2)] 4)) t := by
      intro t kt
      refine pre5 t ?_
      show Steps p.tables e below (T4.setTop (mkF m 12 #[.val (.int p1), .val (.int p2), .val (.int (own_f2 p1)), .val (.int (own_f2 p2))] [(.int (own_f2 p2)), (.int (own_f2 p1))])) _
      refine XS.icmpYes X4.here hx rfl (pc0 := 12) (pc' := 17) rfl (hb hby d12_12) rfl (teq hc12).1 (by decide) (by decide) ?_
      exact kt
    have pre7 : ∀ t, Steps p.tables e below (T4.setTop (mkF m 18 #[.val (.int p1), .val (.int p2), .val (.int (own_f2 p1)), .val (.int (own_f2 p2))] [(.int (own_f2 p1))])) t → Steps p.tables e below (s₁.setTop (entryFrame m #[(.int p1), (.int p2)] 4)) t := by
      intro t kt
      refine pre6 t ?_
      show Steps p.tables e below (T4.setTop (mkF m 17 #[.val (.int p1), .val (.int p2), .val (.int (own_f2 p1)), .val (.int (own_f2 p2))] [])) _
      refine XS.iloadN X4.here hx rfl (hb hby d12_17) rfl ?_
      exact kt
    by_cases hc18 : (0 : Int32) < (own_f2 p1)
    · have pre8 : ∀ t, Steps p.tables e below (T4.setTop (mkF m 21 #[.val (.int p1), .val (.int p2), .val (.int (own_f2 p1)), .val (.int (own_f2 p2))] [])) t → Steps p.tables e below (s₁.setTop (entryFrame m #[(.int p1), (.int p2)] 4)) t := by
        intro t kt
        refine pre7 t ?_
        show Steps p.tables e below (T4.setTop (mkF m 18 #[.val (.int p1), .val (.int p2), .val (.int (own_f2 p1)), .val (.int (own_f2 p2))] [(.int (own_f2 p1))])) _
        refine XS.ifNo X4.here hx rfl (hb hby d12_18) rfl ((if0 _ _).trans (tlt hc18).2.2.2) ?_
        exact kt
      have pre9 : ∀ t, Steps p.tables e below (T4.setTop (mkF m 23 #[.val (.int p1), .val (.int p2), .val (.int (own_f2 p1)), .val (.int (own_f2 p2))] [(.int (0 : Int32)), (.int p1)])) t → Steps p.tables e below (s₁.setTop (entryFrame m #[(.int p1), (.int p2)] 4)) t := by
        intro t kt
        refine pre8 t ?_
        show Steps p.tables e below (T4.setTop (mkF m 21 #[.val (.int p1), .val (.int p2), .val (.int (own_f2 p1)), .val (.int (own_f2 p2))] [])) _
        refine XS.iloadN X4.here hx rfl (hb hby d12_21) rfl ?_
        show Steps p.tables e below (T4.setTop (mkF m 22 #[.val (.int p1), .val (.int p2), .val (.int (own_f2 p1)), .val (.int (own_f2 p2))] [(.int p1)])) _
        refine XS.iconst X4.here hx rfl (hb hby d12_22) ?_
        exact kt
      obtain ⟨_, _, ⟨T10, L10, k10, n10⟩, -, X10, ⟨Lc10, hQ10, l10, y10, z10⟩, st10⟩ := Jvm.LawKit.callS X4 hx (y := (⟨"com/example/vertumnus/vertumnus/TableNameEqualsPinLaw", "ch", "(II)I"⟩ : MethodName)) hown (mvT hZ (hw _ (List.mem_of_getElem? (i := 32) rfl))) (mvT hZ (hw _ (List.mem_of_getElem? (i := 33) rfl))) (mvT hZ (hw _ (List.mem_of_getElem? (i := 5) rfl))) (mvT hZ (hw _ (List.mem_of_getElem? (i := 34) rfl))) (by decide) (backOf (W := 0) (rm6 l Z a0 hw [] p1 (0 : Int32) h0 n0) hZ (hw _ (List.mem_of_getElem? (i := 34) rfl)) (hw _ (List.mem_of_getElem? (i := 5) rfl)) (by decide) (by decide)) (g := (mkF m 23 #[.val (.int p1), .val (.int p2), .val (.int (own_f2 p1)), .val (.int (own_f2 p2))] [(.int (0 : Int32)), (.int p1)])) rfl (by rw [hml]; rfl) (argsL := [(.int p1), (.int (0 : Int32))]) (rest := []) (lenOf pd_3 rfl) rfl (by show 2 * 0 + _ ≤ _; exact Nat.le_of_eq rfl) (hb hby d12_23) (fun _ _ => ⟨rfl, e4, (by decide : 0 + 0 ≤ _), (by decide : 0 + 0 ≤ _)⟩)
      dsimp only [Pt.U, Pt.locs, Pt.cells, Pt.slots] at X10 l10 y10 z10 st10 hQ10
      subst l10 y10 z10
      obtain ⟨rfl, N10q, e10⟩ := hQ10
      have N10 := Fr.app N4 N10q
      have pre10 : ∀ t, Steps p.tables e below (T10.setTop (mkF m 26 #[.val (.int p1), .val (.int p2), .val (.int (own_f2 p1)), .val (.int (own_f2 p2))] [(.int (own_f6 p1 (0 : Int32)))])) t → Steps p.tables e below (s₁.setTop (entryFrame m #[(.int p1), (.int p2)] 4)) t := fun t kt => pre9 t (st10 _ kt)
      have pre11 : ∀ t, Steps p.tables e below (T10.setTop (mkF m 28 #[.val (.int p1), .val (.int p2), .val (.int (own_f2 p1)), .val (.int (own_f2 p2))] [(.int (0 : Int32)), (.int p2), (.int (own_f6 p1 (0 : Int32)))])) t → Steps p.tables e below (s₁.setTop (entryFrame m #[(.int p1), (.int p2)] 4)) t := by
        intro t kt
        refine pre10 t ?_
        show Steps p.tables e below (T10.setTop (mkF m 26 #[.val (.int p1), .val (.int p2), .val (.int (own_f2 p1)), .val (.int (own_f2 p2))] [(.int (own_f6 p1 (0 : Int32)))])) _
        refine XS.iloadN X10.here hx rfl (hb hby d12_26) rfl ?_
        show Steps p.tables e below (T10.setTop (mkF m 27 #[.val (.int p1), .val (.int p2), .val (.int (own_f2 p1)), .val (.int (own_f2 p2))] [(.int p2), (.int (own_f6 p1 (0 : Int32)))])) _
        refine XS.iconst X10.here hx rfl (hb hby d12_27) ?_
        exact kt
      obtain ⟨_, _, ⟨T12, L12, k12, n12⟩, -, X12, ⟨Lc12, hQ12, l12, y12, z12⟩, st12⟩ := Jvm.LawKit.callS X10 hx (y := (⟨"com/example/vertumnus/vertumnus/TableNameEqualsPinLaw", "ch", "(II)I"⟩ : MethodName)) hown (mvT hZ (hw _ (List.mem_of_getElem? (i := 32) rfl))) (mvT hZ (hw _ (List.mem_of_getElem? (i := 33) rfl))) (mvT hZ (hw _ (List.mem_of_getElem? (i := 5) rfl))) (mvT hZ (hw _ (List.mem_of_getElem? (i := 34) rfl))) (by decide) (backOf (W := 1) (rm6 l Z a0 hw [] p2 (0 : Int32) h0 n0) hZ (hw _ (List.mem_of_getElem? (i := 34) rfl)) (hw _ (List.mem_of_getElem? (i := 5) rfl)) (by decide) (by decide)) (g := (mkF m 28 #[.val (.int p1), .val (.int p2), .val (.int (own_f2 p1)), .val (.int (own_f2 p2))] [(.int (0 : Int32)), (.int p2), (.int (own_f6 p1 (0 : Int32)))])) rfl (by rw [hml]; rfl) (argsL := [(.int p2), (.int (0 : Int32))]) (rest := [(.int (own_f6 p1 (0 : Int32)))]) (lenOf pd_3 rfl) rfl (by show 2 * 0 + _ ≤ _; exact Nat.le_of_eq rfl) (hb hby d12_28) (fun _ _ => ⟨rfl, e10, (by decide : 0 + 0 ≤ _), (by decide : 0 + 0 ≤ _)⟩)
      dsimp only [Pt.U, Pt.locs, Pt.cells, Pt.slots] at X12 l12 y12 z12 st12 hQ12
      subst l12 y12 z12
      obtain ⟨rfl, N12q, e12⟩ := hQ12
      have N12 := Fr.app N10 N12q
      have pre12 : ∀ t, Steps p.tables e below (T12.setTop (mkF m 31 #[.val (.int p1), .val (.int p2), .val (.int (own_f2 p1)), .val (.int (own_f2 p2))] [(.int (own_f6 p2 (0 : Int32))), (.int (own_f6 p1 (0 : Int32)))])) t → Steps p.tables e below (s₁.setTop (entryFrame m #[(.int p1), (.int p2)] 4)) t := fun t kt => pre11 t (st12 _ kt)
      by_cases hc31 : (own_f6 p1 (0 : Int32)) = (own_f6 p2 (0 : Int32))
      · have pre13 : ∀ t, Steps p.tables e below (T12.setTop (mkF m 36 #[.val (.int p1), .val (.int p2), .val (.int (own_f2 p1)), .val (.int (own_f2 p2))] [])) t → Steps p.tables e below (s₁.setTop (entryFrame m #[(.int p1), (.int p2)] 4)) t := by
          intro t kt
          refine pre12 t ?_
          show Steps p.tables e below (T12.setTop (mkF m 31 #[.val (.int p1), .val (.int p2), .val (.int (own_f2 p1)), .val (.int (own_f2 p2))] [(.int (own_f6 p2 (0 : Int32))), (.int (own_f6 p1 (0 : Int32)))])) _
          refine XS.icmpYes X12.here hx rfl (pc0 := 31) (pc' := 36) rfl (hb hby d12_31) rfl (teq hc31).1 (by decide) (by decide) ?_
          exact kt
        have pre14 : ∀ t, Steps p.tables e below (T12.setTop (mkF m 38 #[.val (.int p1), .val (.int p2), .val (.int (own_f2 p1)), .val (.int (own_f2 p2))] [(.int (1 : Int32)), (.int (own_f2 p1))])) t → Steps p.tables e below (s₁.setTop (entryFrame m #[(.int p1), (.int p2)] 4)) t := by
          intro t kt
          refine pre13 t ?_
          show Steps p.tables e below (T12.setTop (mkF m 36 #[.val (.int p1), .val (.int p2), .val (.int (own_f2 p1)), .val (.int (own_f2 p2))] [])) _
          refine XS.iloadN X12.here hx rfl (hb hby d12_36) rfl ?_
          show Steps p.tables e below (T12.setTop (mkF m 37 #[.val (.int p1), .val (.int p2), .val (.int (own_f2 p1)), .val (.int (own_f2 p2))] [(.int (own_f2 p1))])) _
          refine XS.iconst X12.here hx rfl (hb hby d12_37) ?_
          exact kt
        by_cases hc38 : (1 : Int32) < (own_f2 p1)
        · have pre15 : ∀ t, Steps p.tables e below (T12.setTop (mkF m 41 #[.val (.int p1), .val (.int p2), .val (.int (own_f2 p1)), .val (.int (own_f2 p2))] [])) t → Steps p.tables e below (s₁.setTop (entryFrame m #[(.int p1), (.int p2)] 4)) t := by
            intro t kt
            refine pre14 t ?_
            show Steps p.tables e below (T12.setTop (mkF m 38 #[.val (.int p1), .val (.int p2), .val (.int (own_f2 p1)), .val (.int (own_f2 p2))] [(.int (1 : Int32)), (.int (own_f2 p1))])) _
            refine XS.icmpNo X12.here hx rfl (hb hby d12_38) rfl (tlt hc38).2.2.2 ?_
            exact kt
          have pre16 : ∀ t, Steps p.tables e below (T12.setTop (mkF m 43 #[.val (.int p1), .val (.int p2), .val (.int (own_f2 p1)), .val (.int (own_f2 p2))] [(.int (1 : Int32)), (.int p1)])) t → Steps p.tables e below (s₁.setTop (entryFrame m #[(.int p1), (.int p2)] 4)) t := by
            intro t kt
            refine pre15 t ?_
            show Steps p.tables e below (T12.setTop (mkF m 41 #[.val (.int p1), .val (.int p2), .val (.int (own_f2 p1)), .val (.int (own_f2 p2))] [])) _
            refine XS.iloadN X12.here hx rfl (hb hby d12_41) rfl ?_
            show Steps p.tables e below (T12.setTop (mkF m 42 #[.val (.int p1), .val (.int p2), .val (.int (own_f2 p1)), .val (.int (own_f2 p2))] [(.int p1)])) _
            refine XS.iconst X12.here hx rfl (hb hby d12_42) ?_
            exact kt
          obtain ⟨_, _, ⟨T17, L17, k17, n17⟩, -, X17, ⟨Lc17, hQ17, l17, y17, z17⟩, st17⟩ := Jvm.LawKit.callS X12 hx (y := (⟨"com/example/vertumnus/vertumnus/TableNameEqualsPinLaw", "ch", "(II)I"⟩ : MethodName)) hown (mvT hZ (hw _ (List.mem_of_getElem? (i := 32) rfl))) (mvT hZ (hw _ (List.mem_of_getElem? (i := 33) rfl))) (mvT hZ (hw _ (List.mem_of_getElem? (i := 5) rfl))) (mvT hZ (hw _ (List.mem_of_getElem? (i := 34) rfl))) (by decide) (backOf (W := 0) (rm6 l Z a0 hw [] p1 (1 : Int32) h0 n0) hZ (hw _ (List.mem_of_getElem? (i := 34) rfl)) (hw _ (List.mem_of_getElem? (i := 5) rfl)) (by decide) (by decide)) (g := (mkF m 43 #[.val (.int p1), .val (.int p2), .val (.int (own_f2 p1)), .val (.int (own_f2 p2))] [(.int (1 : Int32)), (.int p1)])) rfl (by rw [hml]; rfl) (argsL := [(.int p1), (.int (1 : Int32))]) (rest := []) (lenOf pd_3 rfl) rfl (by show 2 * 0 + _ ≤ _; exact Nat.le_of_eq rfl) (hb hby d12_43) (fun _ _ => ⟨rfl, e12, (by decide : 0 + 0 ≤ _), (by decide : 0 + 0 ≤ _)⟩)
          dsimp only [Pt.U, Pt.locs, Pt.cells, Pt.slots] at X17 l17 y17 z17 st17 hQ17
          subst l17 y17 z17
          obtain ⟨rfl, N17q, e17⟩ := hQ17
          have N17 := Fr.app N12 N17q
          have pre17 : ∀ t, Steps p.tables e below (T17.setTop (mkF m 46 #[.val (.int p1), .val (.int p2), .val (.int (own_f2 p1)), .val (.int (own_f2 p2))] [(.int (own_f6 p1 (1 : Int32)))])) t → Steps p.tables e below (s₁.setTop (entryFrame m #[(.int p1), (.int p2)] 4)) t := fun t kt => pre16 t (st17 _ kt)
          have pre18 : ∀ t, Steps p.tables e below (T17.setTop (mkF m 48 #[.val (.int p1), .val (.int p2), .val (.int (own_f2 p1)), .val (.int (own_f2 p2))] [(.int (1 : Int32)), (.int p2), (.int (own_f6 p1 (1 : Int32)))])) t → Steps p.tables e below (s₁.setTop (entryFrame m #[(.int p1), (.int p2)] 4)) t := by
            intro t kt
            refine pre17 t ?_
            show Steps p.tables e below (T17.setTop (mkF m 46 #[.val (.int p1), .val (.int p2), .val (.int (own_f2 p1)), .val (.int (own_f2 p2))] [(.int (own_f6 p1 (1 : Int32)))])) _
            refine XS.iloadN X17.here hx rfl (hb hby d12_46) rfl ?_
            show Steps p.tables e below (T17.setTop (mkF m 47 #[.val (.int p1), .val (.int p2), .val (.int (own_f2 p1)), .val (.int (own_f2 p2))] [(.int p2), (.int (own_f6 p1 (1 : Int32)))])) _
            refine XS.iconst X17.here hx rfl (hb hby d12_47) ?_
            exact kt
          obtain ⟨_, _, ⟨T19, L19, k19, n19⟩, -, X19, ⟨Lc19, hQ19, l19, y19, z19⟩, st19⟩ := Jvm.LawKit.callS X17 hx (y := (⟨"com/example/vertumnus/vertumnus/TableNameEqualsPinLaw", "ch", "(II)I"⟩ : MethodName)) hown (mvT hZ (hw _ (List.mem_of_getElem? (i := 32) rfl))) (mvT hZ (hw _ (List.mem_of_getElem? (i := 33) rfl))) (mvT hZ (hw _ (List.mem_of_getElem? (i := 5) rfl))) (mvT hZ (hw _ (List.mem_of_getElem? (i := 34) rfl))) (by decide) (backOf (W := 1) (rm6 l Z a0 hw [] p2 (1 : Int32) h0 n0) hZ (hw _ (List.mem_of_getElem? (i := 34) rfl)) (hw _ (List.mem_of_getElem? (i := 5) rfl)) (by decide) (by decide)) (g := (mkF m 48 #[.val (.int p1), .val (.int p2), .val (.int (own_f2 p1)), .val (.int (own_f2 p2))] [(.int (1 : Int32)), (.int p2), (.int (own_f6 p1 (1 : Int32)))])) rfl (by rw [hml]; rfl) (argsL := [(.int p2), (.int (1 : Int32))]) (rest := [(.int (own_f6 p1 (1 : Int32)))]) (lenOf pd_3 rfl) rfl (by show 2 * 0 + _ ≤ _; exact Nat.le_of_eq rfl) (hb hby d12_48) (fun _ _ => ⟨rfl, e17, (by decide : 0 + 0 ≤ _), (by decide : 0 + 0 ≤ _)⟩)
          dsimp only [Pt.U, Pt.locs, Pt.cells, Pt.slots] at X19 l19 y19 z19 st19 hQ19
          subst l19 y19 z19
          obtain ⟨rfl, N19q, e19⟩ := hQ19
          have N19 := Fr.app N17 N19q
          have pre19 : ∀ t, Steps p.tables e below (T19.setTop (mkF m 51 #[.val (.int p1), .val (.int p2), .val (.int (own_f2 p1)), .val (.int (own_f2 p2))] [(.int (own_f6 p2 (1 : Int32))), (.int (own_f6 p1 (1 : Int32)))])) t → Steps p.tables e below (s₁.setTop (entryFrame m #[(.int p1), (.int p2)] 4)) t := fun t kt => pre18 t (st19 _ kt)
          by_cases hc51 : (own_f6 p1 (1 : Int32)) = (own_f6 p2 (1 : Int32))
          · have pre20 : ∀ t, Steps p.tables e below (T19.setTop (mkF m 56 #[.val (.int p1), .val (.int p2), .val (.int (own_f2 p1)), .val (.int (own_f2 p2))] [])) t → Steps p.tables e below (s₁.setTop (entryFrame m #[(.int p1), (.int p2)] 4)) t := by
              intro t kt
              refine pre19 t ?_
              show Steps p.tables e below (T19.setTop (mkF m 51 #[.val (.int p1), .val (.int p2), .val (.int (own_f2 p1)), .val (.int (own_f2 p2))] [(.int (own_f6 p2 (1 : Int32))), (.int (own_f6 p1 (1 : Int32)))])) _
              refine XS.icmpYes X19.here hx rfl (pc0 := 51) (pc' := 56) rfl (hb hby d12_51) rfl (teq hc51).1 (by decide) (by decide) ?_
              exact kt
            have pre21 : ∀ t, Steps p.tables e below (T19.setTop (mkF m 58 #[.val (.int p1), .val (.int p2), .val (.int (own_f2 p1)), .val (.int (own_f2 p2))] [(.int (2 : Int32)), (.int (own_f2 p1))])) t → Steps p.tables e below (s₁.setTop (entryFrame m #[(.int p1), (.int p2)] 4)) t := by
              intro t kt
              refine pre20 t ?_
              show Steps p.tables e below (T19.setTop (mkF m 56 #[.val (.int p1), .val (.int p2), .val (.int (own_f2 p1)), .val (.int (own_f2 p2))] [])) _
              refine XS.iloadN X19.here hx rfl (hb hby d12_56) rfl ?_
              show Steps p.tables e below (T19.setTop (mkF m 57 #[.val (.int p1), .val (.int p2), .val (.int (own_f2 p1)), .val (.int (own_f2 p2))] [(.int (own_f2 p1))])) _
              refine XS.iconst X19.here hx rfl (hb hby d12_57) ?_
              exact kt
            by_cases hc58 : (2 : Int32) < (own_f2 p1)
            · have pre22 : ∀ t, Steps p.tables e below (T19.setTop (mkF m 61 #[.val (.int p1), .val (.int p2), .val (.int (own_f2 p1)), .val (.int (own_f2 p2))] [])) t → Steps p.tables e below (s₁.setTop (entryFrame m #[(.int p1), (.int p2)] 4)) t := by
                intro t kt
                refine pre21 t ?_
                show Steps p.tables e below (T19.setTop (mkF m 58 #[.val (.int p1), .val (.int p2), .val (.int (own_f2 p1)), .val (.int (own_f2 p2))] [(.int (2 : Int32)), (.int (own_f2 p1))])) _
                refine XS.icmpNo X19.here hx rfl (hb hby d12_58) rfl (tlt hc58).2.2.2 ?_
                exact kt
              have pre23 : ∀ t, Steps p.tables e below (T19.setTop (mkF m 63 #[.val (.int p1), .val (.int p2), .val (.int (own_f2 p1)), .val (.int (own_f2 p2))] [(.int (2 : Int32)), (.int p1)])) t → Steps p.tables e below (s₁.setTop (entryFrame m #[(.int p1), (.int p2)] 4)) t := by
                intro t kt
                refine pre22 t ?_
                show Steps p.tables e below (T19.setTop (mkF m 61 #[.val (.int p1), .val (.int p2), .val (.int (own_f2 p1)), .val (.int (own_f2 p2))] [])) _
                refine XS.iloadN X19.here hx rfl (hb hby d12_61) rfl ?_
                show Steps p.tables e below (T19.setTop (mkF m 62 #[.val (.int p1), .val (.int p2), .val (.int (own_f2 p1)), .val (.int (own_f2 p2))] [(.int p1)])) _
                refine XS.iconst X19.here hx rfl (hb hby d12_62) ?_
                exact kt
              obtain ⟨_, _, ⟨T24, L24, k24, n24⟩, -, X24, ⟨Lc24, hQ24, l24, y24, z24⟩, st24⟩ := Jvm.LawKit.callS X19 hx (y := (⟨"com/example/vertumnus/vertumnus/TableNameEqualsPinLaw", "ch", "(II)I"⟩ : MethodName)) hown (mvT hZ (hw _ (List.mem_of_getElem? (i := 32) rfl))) (mvT hZ (hw _ (List.mem_of_getElem? (i := 33) rfl))) (mvT hZ (hw _ (List.mem_of_getElem? (i := 5) rfl))) (mvT hZ (hw _ (List.mem_of_getElem? (i := 34) rfl))) (by decide) (backOf (W := 0) (rm6 l Z a0 hw [] p1 (2 : Int32) h0 n0) hZ (hw _ (List.mem_of_getElem? (i := 34) rfl)) (hw _ (List.mem_of_getElem? (i := 5) rfl)) (by decide) (by decide)) (g := (mkF m 63 #[.val (.int p1), .val (.int p2), .val (.int (own_f2 p1)), .val (.int (own_f2 p2))] [(.int (2 : Int32)), (.int p1)])) rfl (by rw [hml]; rfl) (argsL := [(.int p1), (.int (2 : Int32))]) (rest := []) (lenOf pd_3 rfl) rfl (by show 2 * 0 + _ ≤ _; exact Nat.le_of_eq rfl) (hb hby d12_63) (fun _ _ => ⟨rfl, e19, (by decide : 0 + 0 ≤ _), (by decide : 0 + 0 ≤ _)⟩)
              dsimp only [Pt.U, Pt.locs, Pt.cells, Pt.slots] at X24 l24 y24 z24 st24 hQ24
              subst l24 y24 z24
              obtain ⟨rfl, N24q, e24⟩ := hQ24
              have N24 := Fr.app N19 N24q
              have pre24 : ∀ t, Steps p.tables e below (T24.setTop (mkF m 66 #[.val (.int p1), .val (.int p2), .val (.int (own_f2 p1)), .val (.int (own_f2 p2))] [(.int (own_f6 p1 (2 : Int32)))])) t → Steps p.tables e below (s₁.setTop (entryFrame m #[(.int p1), (.int p2)] 4)) t := fun t kt => pre23 t (st24 _ kt)
              have pre25 : ∀ t, Steps p.tables e below (T24.setTop (mkF m 68 #[.val (.int p1), .val (.int p2), .val (.int (own_f2 p1)), .val (.int (own_f2 p2))] [(.int (2 : Int32)), (.int p2), (.int (own_f6 p1 (2 : Int32)))])) t → Steps p.tables e below (s₁.setTop (entryFrame m #[(.int p1), (.int p2)] 4)) t := by
                intro t kt
                refine pre24 t ?_
                show Steps p.tables e below (T24.setTop (mkF m 66 #[.val (.int p1), .val (.int p2), .val (.int (own_f2 p1)), .val (.int (own_f2 p2))] [(.int (own_f6 p1 (2 : Int32)))])) _
                refine XS.iloadN X24.here hx rfl (hb hby d12_66) rfl ?_
                show Steps p.tables e below (T24.setTop (mkF m 67 #[.val (.int p1), .val (.int p2), .val (.int (own_f2 p1)), .val (.int (own_f2 p2))] [(.int p2), (.int (own_f6 p1 (2 : Int32)))])) _
                refine XS.iconst X24.here hx rfl (hb hby d12_67) ?_
                exact kt
              obtain ⟨_, _, ⟨T26, L26, k26, n26⟩, -, X26, ⟨Lc26, hQ26, l26, y26, z26⟩, st26⟩ := Jvm.LawKit.callS X24 hx (y := (⟨"com/example/vertumnus/vertumnus/TableNameEqualsPinLaw", "ch", "(II)I"⟩ : MethodName)) hown (mvT hZ (hw _ (List.mem_of_getElem? (i := 32) rfl))) (mvT hZ (hw _ (List.mem_of_getElem? (i := 33) rfl))) (mvT hZ (hw _ (List.mem_of_getElem? (i := 5) rfl))) (mvT hZ (hw _ (List.mem_of_getElem? (i := 34) rfl))) (by decide) (backOf (W := 1) (rm6 l Z a0 hw [] p2 (2 : Int32) h0 n0) hZ (hw _ (List.mem_of_getElem? (i := 34) rfl)) (hw _ (List.mem_of_getElem? (i := 5) rfl)) (by decide) (by decide)) (g := (mkF m 68 #[.val (.int p1), .val (.int p2), .val (.int (own_f2 p1)), .val (.int (own_f2 p2))] [(.int (2 : Int32)), (.int p2), (.int (own_f6 p1 (2 : Int32)))])) rfl (by rw [hml]; rfl) (argsL := [(.int p2), (.int (2 : Int32))]) (rest := [(.int (own_f6 p1 (2 : Int32)))]) (lenOf pd_3 rfl) rfl (by show 2 * 0 + _ ≤ _; exact Nat.le_of_eq rfl) (hb hby d12_68) (fun _ _ => ⟨rfl, e24, (by decide : 0 + 0 ≤ _), (by decide : 0 + 0 ≤ _)⟩)
              dsimp only [Pt.U, Pt.locs, Pt.cells, Pt.slots] at X26 l26 y26 z26 st26 hQ26
              subst l26 y26 z26
              obtain ⟨rfl, N26q, e26⟩ := hQ26
              have N26 := Fr.app N24 N26q
              have pre26 : ∀ t, Steps p.tables e below (T26.setTop (mkF m 71 #[.val (.int p1), .val (.int p2), .val (.int (own_f2 p1)), .val (.int (own_f2 p2))] [(.int (own_f6 p2 (2 : Int32))), (.int (own_f6 p1 (2 : Int32)))])) t → Steps p.tables e below (s₁.setTop (entryFrame m #[(.int p1), (.int p2)] 4)) t := fun t kt => pre25 t (st26 _ kt)
              by_cases hc71 : (own_f6 p1 (2 : Int32)) = (own_f6 p2 (2 : Int32))
              · have pre27 : ∀ t, Steps p.tables e below (T26.setTop (mkF m 76 #[.val (.int p1), .val (.int p2), .val (.int (own_f2 p1)), .val (.int (own_f2 p2))] [])) t → Steps p.tables e below (s₁.setTop (entryFrame m #[(.int p1), (.int p2)] 4)) t := by
                  intro t kt
                  refine pre26 t ?_
                  show Steps p.tables e below (T26.setTop (mkF m 71 #[.val (.int p1), .val (.int p2), .val (.int (own_f2 p1)), .val (.int (own_f2 p2))] [(.int (own_f6 p2 (2 : Int32))), (.int (own_f6 p1 (2 : Int32)))])) _
                  refine XS.icmpYes X26.here hx rfl (pc0 := 71) (pc' := 76) rfl (hb hby d12_71) rfl (teq hc71).1 (by decide) (by decide) ?_
                  exact kt
                have pre28 : ∀ t, Steps p.tables e below (T26.setTop (mkF m 77 #[.val (.int p1), .val (.int p2), .val (.int (own_f2 p1)), .val (.int (own_f2 p2))] [(.int (1 : Int32))])) t → Steps p.tables e below (s₁.setTop (entryFrame m #[(.int p1), (.int p2)] 4)) t := by
                  intro t kt
                  refine pre27 t ?_
                  show Steps p.tables e below (T26.setTop (mkF m 76 #[.val (.int p1), .val (.int p2), .val (.int (own_f2 p1)), .val (.int (own_f2 p2))] [])) _
                  refine XS.iconst X26.here hx rfl (hb hby d12_76) ?_
                  exact kt
                have hres : (1 : Int32) = (own_same p1 p2) := by unfold own_same; rw [if_pos hc12]; simp [own_s1, own_s2, own_s3, hc18, hc31, hc38, hc51, hc58, hc71]
                obtain ⟨fs, hr, hrun, hended, hW, hsame⟩ := X26.leave (v := some (.int (1 : Int32))) (fun h => by rw [Bd.returns] at h; cases h)
                refine ⟨_, _, pre28 _ ?_, hrun, hended, _, _, rfl, ?_, ⟨_, rfl⟩, hW, hsame.mono (by decide) (by decide)⟩
                · show Steps p.tables e below (T26.setTop (mkF m 77 #[.val (.int p1), .val (.int p2), .val (.int (own_f2 p1)), .val (.int (own_f2 p2))] [(.int (1 : Int32))])) _
                  exact retN X26 hx (t := .boolean) Bd.returns (by simp) (hb hby d12_77) hr
                · show Qrm12 Z p1 p2 h0 n0 _ T26.heap _
                  rw [e26]
                  exact ⟨congrArg some (congrArg Value.int hres), N26, rfl⟩
              · have pre29 : ∀ t, Steps p.tables e below (T26.setTop (mkF m 74 #[.val (.int p1), .val (.int p2), .val (.int (own_f2 p1)), .val (.int (own_f2 p2))] [])) t → Steps p.tables e below (s₁.setTop (entryFrame m #[(.int p1), (.int p2)] 4)) t := by
                  intro t kt
                  refine pre26 t ?_
                  show Steps p.tables e below (T26.setTop (mkF m 71 #[.val (.int p1), .val (.int p2), .val (.int (own_f2 p1)), .val (.int (own_f2 p2))] [(.int (own_f6 p2 (2 : Int32))), (.int (own_f6 p1 (2 : Int32)))])) _
                  refine XS.icmpNo X26.here hx rfl (hb hby d12_71) rfl (feq hc71).1 ?_
                  exact kt
                have pre30 : ∀ t, Steps p.tables e below (T26.setTop (mkF m 75 #[.val (.int p1), .val (.int p2), .val (.int (own_f2 p1)), .val (.int (own_f2 p2))] [(.int (0 : Int32))])) t → Steps p.tables e below (s₁.setTop (entryFrame m #[(.int p1), (.int p2)] 4)) t := by
                  intro t kt
                  refine pre29 t ?_
                  show Steps p.tables e below (T26.setTop (mkF m 74 #[.val (.int p1), .val (.int p2), .val (.int (own_f2 p1)), .val (.int (own_f2 p2))] [])) _
                  refine XS.iconst X26.here hx rfl (hb hby d12_74) ?_
                  exact kt
                have hres : (0 : Int32) = (own_same p1 p2) := by unfold own_same; rw [if_pos hc12]; simp [own_s1, own_s2, own_s3, hc18, hc31, hc38, hc51, hc58, hc71]
                obtain ⟨fs, hr, hrun, hended, hW, hsame⟩ := X26.leave (v := some (.int (0 : Int32))) (fun h => by rw [Bd.returns] at h; cases h)
                refine ⟨_, _, pre30 _ ?_, hrun, hended, _, _, rfl, ?_, ⟨_, rfl⟩, hW, hsame.mono (by decide) (by decide)⟩
                · show Steps p.tables e below (T26.setTop (mkF m 75 #[.val (.int p1), .val (.int p2), .val (.int (own_f2 p1)), .val (.int (own_f2 p2))] [(.int (0 : Int32))])) _
                  exact retN X26 hx (t := .boolean) Bd.returns (by simp) (hb hby d12_75) hr
                · show Qrm12 Z p1 p2 h0 n0 _ T26.heap _
                  rw [e26]
                  exact ⟨congrArg some (congrArg Value.int hres), N26, rfl⟩
            · have pre31 : ∀ t, Steps p.tables e below (T19.setTop (mkF m 76 #[.val (.int p1), .val (.int p2), .val (.int (own_f2 p1)), .val (.int (own_f2 p2))] [])) t → Steps p.tables e below (s₁.setTop (entryFrame m #[(.int p1), (.int p2)] 4)) t := by
                intro t kt
                refine pre21 t ?_
                show Steps p.tables e below (T19.setTop (mkF m 58 #[.val (.int p1), .val (.int p2), .val (.int (own_f2 p1)), .val (.int (own_f2 p2))] [(.int (2 : Int32)), (.int (own_f2 p1))])) _
                refine XS.icmpYes X19.here hx rfl (pc0 := 58) (pc' := 76) rfl (hb hby d12_58) rfl (flt hc58).2.2.2 (by decide) (by decide) ?_
                exact kt
              have pre32 : ∀ t, Steps p.tables e below (T19.setTop (mkF m 77 #[.val (.int p1), .val (.int p2), .val (.int (own_f2 p1)), .val (.int (own_f2 p2))] [(.int (1 : Int32))])) t → Steps p.tables e below (s₁.setTop (entryFrame m #[(.int p1), (.int p2)] 4)) t := by
                intro t kt
                refine pre31 t ?_
                show Steps p.tables e below (T19.setTop (mkF m 76 #[.val (.int p1), .val (.int p2), .val (.int (own_f2 p1)), .val (.int (own_f2 p2))] [])) _
                refine XS.iconst X19.here hx rfl (hb hby d12_76) ?_
                exact kt
              have hres : (1 : Int32) = (own_same p1 p2) := by unfold own_same; rw [if_pos hc12]; simp [own_s1, own_s2, own_s3, hc18, hc31, hc38, hc51, hc58]
              obtain ⟨fs, hr, hrun, hended, hW, hsame⟩ := X19.leave (v := some (.int (1 : Int32))) (fun h => by rw [Bd.returns] at h; cases h)
              refine ⟨_, _, pre32 _ ?_, hrun, hended, _, _, rfl, ?_, ⟨_, rfl⟩, hW, hsame.mono (by decide) (by decide)⟩
              · show Steps p.tables e below (T19.setTop (mkF m 77 #[.val (.int p1), .val (.int p2), .val (.int (own_f2 p1)), .val (.int (own_f2 p2))] [(.int (1 : Int32))])) _
                exact retN X19 hx (t := .boolean) Bd.returns (by simp) (hb hby d12_77) hr
              · show Qrm12 Z p1 p2 h0 n0 _ T19.heap _
                rw [e19]
                exact ⟨congrArg some (congrArg Value.int hres), N19, rfl⟩
          · have pre33 : ∀ t, Steps p.tables e below (T19.setTop (mkF m 54 #[.val (.int p1), .val (.int p2), .val (.int (own_f2 p1)), .val (.int (own_f2 p2))] [])) t → Steps p.tables e below (s₁.setTop (entryFrame m #[(.int p1), (.int p2)] 4)) t := by
              intro t kt
              refine pre19 t ?_
              show Steps p.tables e below (T19.setTop (mkF m 51 #[.val (.int p1), .val (.int p2), .val (.int (own_f2 p1)), .val (.int (own_f2 p2))] [(.int (own_f6 p2 (1 : Int32))), (.int (own_f6 p1 (1 : Int32)))])) _
              refine XS.icmpNo X19.here hx rfl (hb hby d12_51) rfl (feq hc51).1 ?_
              exact kt
            have pre34 : ∀ t, Steps p.tables e below (T19.setTop (mkF m 55 #[.val (.int p1), .val (.int p2), .val (.int (own_f2 p1)), .val (.int (own_f2 p2))] [(.int (0 : Int32))])) t → Steps p.tables e below (s₁.setTop (entryFrame m #[(.int p1), (.int p2)] 4)) t := by
              intro t kt
              refine pre33 t ?_
              show Steps p.tables e below (T19.setTop (mkF m 54 #[.val (.int p1), .val (.int p2), .val (.int (own_f2 p1)), .val (.int (own_f2 p2))] [])) _
              refine XS.iconst X19.here hx rfl (hb hby d12_54) ?_
              exact kt
            have hres : (0 : Int32) = (own_same p1 p2) := by unfold own_same; rw [if_pos hc12]; simp [own_s1, own_s2, own_s3, hc18, hc31, hc38, hc51]
            obtain ⟨fs, hr, hrun, hended, hW, hsame⟩ := X19.leave (v := some (.int (0 : Int32))) (fun h => by rw [Bd.returns] at h; cases h)
            refine ⟨_, _, pre34 _ ?_, hrun, hended, _, _, rfl, ?_, ⟨_, rfl⟩, hW, hsame.mono (by decide) (by decide)⟩
            · show Steps p.tables e below (T19.setTop (mkF m 55 #[.val (.int p1), .val (.int p2), .val (.int (own_f2 p1)), .val (.int (own_f2 p2))] [(.int (0 : Int32))])) _
              exact retN X19 hx (t := .boolean) Bd.returns (by simp) (hb hby d12_55) hr
            · show Qrm12 Z p1 p2 h0 n0 _ T19.heap _
              rw [e19]
              exact ⟨congrArg some (congrArg Value.int hres), N19, rfl⟩
        · have pre35 : ∀ t, Steps p.tables e below (T12.setTop (mkF m 56 #[.val (.int p1), .val (.int p2), .val (.int (own_f2 p1)), .val (.int (own_f2 p2))] [])) t → Steps p.tables e below (s₁.setTop (entryFrame m #[(.int p1), (.int p2)] 4)) t := by
            intro t kt
            refine pre14 t ?_
            show Steps p.tables e below (T12.setTop (mkF m 38 #[.val (.int p1), .val (.int p2), .val (.int (own_f2 p1)), .val (.int (own_f2 p2))] [(.int (1 : Int32)), (.int (own_f2 p1))])) _
            refine XS.icmpYes X12.here hx rfl (pc0 := 38) (pc' := 56) rfl (hb hby d12_38) rfl (flt hc38).2.2.2 (by decide) (by decide) ?_
            exact kt
          have pre36 : ∀ t, Steps p.tables e below (T12.setTop (mkF m 58 #[.val (.int p1), .val (.int p2), .val (.int (own_f2 p1)), .val (.int (own_f2 p2))] [(.int (2 : Int32)), (.int (own_f2 p1))])) t → Steps p.tables e below (s₁.setTop (entryFrame m #[(.int p1), (.int p2)] 4)) t := by
            intro t kt
            refine pre35 t ?_
            show Steps p.tables e below (T12.setTop (mkF m 56 #[.val (.int p1), .val (.int p2), .val (.int (own_f2 p1)), .val (.int (own_f2 p2))] [])) _
            refine XS.iloadN X12.here hx rfl (hb hby d12_56) rfl ?_
            show Steps p.tables e below (T12.setTop (mkF m 57 #[.val (.int p1), .val (.int p2), .val (.int (own_f2 p1)), .val (.int (own_f2 p2))] [(.int (own_f2 p1))])) _
            refine XS.iconst X12.here hx rfl (hb hby d12_57) ?_
            exact kt
          by_cases hc58 : (2 : Int32) < (own_f2 p1)
          · have pre37 : ∀ t, Steps p.tables e below (T12.setTop (mkF m 61 #[.val (.int p1), .val (.int p2), .val (.int (own_f2 p1)), .val (.int (own_f2 p2))] [])) t → Steps p.tables e below (s₁.setTop (entryFrame m #[(.int p1), (.int p2)] 4)) t := by
              intro t kt
              refine pre36 t ?_
              show Steps p.tables e below (T12.setTop (mkF m 58 #[.val (.int p1), .val (.int p2), .val (.int (own_f2 p1)), .val (.int (own_f2 p2))] [(.int (2 : Int32)), (.int (own_f2 p1))])) _
              refine XS.icmpNo X12.here hx rfl (hb hby d12_58) rfl (tlt hc58).2.2.2 ?_
              exact kt
            have pre38 : ∀ t, Steps p.tables e below (T12.setTop (mkF m 63 #[.val (.int p1), .val (.int p2), .val (.int (own_f2 p1)), .val (.int (own_f2 p2))] [(.int (2 : Int32)), (.int p1)])) t → Steps p.tables e below (s₁.setTop (entryFrame m #[(.int p1), (.int p2)] 4)) t := by
              intro t kt
              refine pre37 t ?_
              show Steps p.tables e below (T12.setTop (mkF m 61 #[.val (.int p1), .val (.int p2), .val (.int (own_f2 p1)), .val (.int (own_f2 p2))] [])) _
              refine XS.iloadN X12.here hx rfl (hb hby d12_61) rfl ?_
              show Steps p.tables e below (T12.setTop (mkF m 62 #[.val (.int p1), .val (.int p2), .val (.int (own_f2 p1)), .val (.int (own_f2 p2))] [(.int p1)])) _
              refine XS.iconst X12.here hx rfl (hb hby d12_62) ?_
              exact kt
            obtain ⟨_, _, ⟨T39, L39, k39, n39⟩, -, X39, ⟨Lc39, hQ39, l39, y39, z39⟩, st39⟩ := Jvm.LawKit.callS X12 hx (y := (⟨"com/example/vertumnus/vertumnus/TableNameEqualsPinLaw", "ch", "(II)I"⟩ : MethodName)) hown (mvT hZ (hw _ (List.mem_of_getElem? (i := 32) rfl))) (mvT hZ (hw _ (List.mem_of_getElem? (i := 33) rfl))) (mvT hZ (hw _ (List.mem_of_getElem? (i := 5) rfl))) (mvT hZ (hw _ (List.mem_of_getElem? (i := 34) rfl))) (by decide) (backOf (W := 0) (rm6 l Z a0 hw [] p1 (2 : Int32) h0 n0) hZ (hw _ (List.mem_of_getElem? (i := 34) rfl)) (hw _ (List.mem_of_getElem? (i := 5) rfl)) (by decide) (by decide)) (g := (mkF m 63 #[.val (.int p1), .val (.int p2), .val (.int (own_f2 p1)), .val (.int (own_f2 p2))] [(.int (2 : Int32)), (.int p1)])) rfl (by rw [hml]; rfl) (argsL := [(.int p1), (.int (2 : Int32))]) (rest := []) (lenOf pd_3 rfl) rfl (by show 2 * 0 + _ ≤ _; exact Nat.le_of_eq rfl) (hb hby d12_63) (fun _ _ => ⟨rfl, e12, (by decide : 0 + 0 ≤ _), (by decide : 0 + 0 ≤ _)⟩)
            dsimp only [Pt.U, Pt.locs, Pt.cells, Pt.slots] at X39 l39 y39 z39 st39 hQ39
            subst l39 y39 z39
            obtain ⟨rfl, N39q, e39⟩ := hQ39
            have N39 := Fr.app N12 N39q
            have pre39 : ∀ t, Steps p.tables e below (T39.setTop (mkF m 66 #[.val (.int p1), .val (.int p2), .val (.int (own_f2 p1)), .val (.int (own_f2 p2))] [(.int (own_f6 p1 (2 : Int32)))])) t → Steps p.tables e below (s₁.setTop (entryFrame m #[(.int p1), (.int p2)] 4)) t := fun t kt => pre38 t (st39 _ kt)
            have pre40 : ∀ t, Steps p.tables e below (T39.setTop (mkF m 68 #[.val (.int p1), .val (.int p2), .val (.int (own_f2 p1)), .val (.int (own_f2 p2))] [(.int (2 : Int32)), (.int p2), (.int (own_f6 p1 (2 : Int32)))])) t → Steps p.tables e below (s₁.setTop (entryFrame m #[(.int p1), (.int p2)] 4)) t := by
              intro t kt
              refine pre39 t ?_
              show Steps p.tables e below (T39.setTop (mkF m 66 #[.val (.int p1), .val (.int p2), .val (.int (own_f2 p1)), .val (.int (own_f2 p2))] [(.int (own_f6 p1 (2 : Int32)))])) _
              refine XS.iloadN X39.here hx rfl (hb hby d12_66) rfl ?_
              show Steps p.tables e below (T39.setTop (mkF m 67 #[.val (.int p1), .val (.int p2), .val (.int (own_f2 p1)), .val (.int (own_f2 p2))] [(.int p2), (.int (own_f6 p1 (2 : Int32)))])) _
              refine XS.iconst X39.here hx rfl (hb hby d12_67) ?_
              exact kt
            obtain ⟨_, _, ⟨T41, L41, k41, n41⟩, -, X41, ⟨Lc41, hQ41, l41, y41, z41⟩, st41⟩ := Jvm.LawKit.callS X39 hx (y := (⟨"com/example/vertumnus/vertumnus/TableNameEqualsPinLaw", "ch", "(II)I"⟩ : MethodName)) hown (mvT hZ (hw _ (List.mem_of_getElem? (i := 32) rfl))) (mvT hZ (hw _ (List.mem_of_getElem? (i := 33) rfl))) (mvT hZ (hw _ (List.mem_of_getElem? (i := 5) rfl))) (mvT hZ (hw _ (List.mem_of_getElem? (i := 34) rfl))) (by decide) (backOf (W := 1) (rm6 l Z a0 hw [] p2 (2 : Int32) h0 n0) hZ (hw _ (List.mem_of_getElem? (i := 34) rfl)) (hw _ (List.mem_of_getElem? (i := 5) rfl)) (by decide) (by decide)) (g := (mkF m 68 #[.val (.int p1), .val (.int p2), .val (.int (own_f2 p1)), .val (.int (own_f2 p2))] [(.int (2 : Int32)), (.int p2), (.int (own_f6 p1 (2 : Int32)))])) rfl (by rw [hml]; rfl) (argsL := [(.int p2), (.int (2 : Int32))]) (rest := [(.int (own_f6 p1 (2 : Int32)))]) (lenOf pd_3 rfl) rfl (by show 2 * 0 + _ ≤ _; exact Nat.le_of_eq rfl) (hb hby d12_68) (fun _ _ => ⟨rfl, e39, (by decide : 0 + 0 ≤ _), (by decide : 0 + 0 ≤ _)⟩)
            dsimp only [Pt.U, Pt.locs, Pt.cells, Pt.slots] at X41 l41 y41 z41 st41 hQ41
            subst l41 y41 z41
            obtain ⟨rfl, N41q, e41⟩ := hQ41
            have N41 := Fr.app N39 N41q
            have pre41 : ∀ t, Steps p.tables e below (T41.setTop (mkF m 71 #[.val (.int p1), .val (.int p2), .val (.int (own_f2 p1)), .val (.int (own_f2 p2))] [(.int (own_f6 p2 (2 : Int32))), (.int (own_f6 p1 (2 : Int32)))])) t → Steps p.tables e below (s₁.setTop (entryFrame m #[(.int p1), (.int p2)] 4)) t := fun t kt => pre40 t (st41 _ kt)
            by_cases hc71 : (own_f6 p1 (2 : Int32)) = (own_f6 p2 (2 : Int32))
            · have pre42 : ∀ t, Steps p.tables e below (T41.setTop (mkF m 76 #[.val (.int p1), .val (.int p2), .val (.int (own_f2 p1)), .val (.int (own_f2 p2))] [])) t → Steps p.tables e below (s₁.setTop (entryFrame m #[(.int p1), (.int p2)] 4)) t := by
                intro t kt
                refine pre41 t ?_
                show Steps p.tables e below (T41.setTop (mkF m 71 #[.val (.int p1), .val (.int p2), .val (.int (own_f2 p1)), .val (.int (own_f2 p2))] [(.int (own_f6 p2 (2 : Int32))), (.int (own_f6 p1 (2 : Int32)))])) _
                refine XS.icmpYes X41.here hx rfl (pc0 := 71) (pc' := 76) rfl (hb hby d12_71) rfl (teq hc71).1 (by decide) (by decide) ?_
                exact kt
              have pre43 : ∀ t, Steps p.tables e below (T41.setTop (mkF m 77 #[.val (.int p1), .val (.int p2), .val (.int (own_f2 p1)), .val (.int (own_f2 p2))] [(.int (1 : Int32))])) t → Steps p.tables e below (s₁.setTop (entryFrame m #[(.int p1), (.int p2)] 4)) t := by
                intro t kt
                refine pre42 t ?_
                show Steps p.tables e below (T41.setTop (mkF m 76 #[.val (.int p1), .val (.int p2), .val (.int (own_f2 p1)), .val (.int (own_f2 p2))] [])) _
                refine XS.iconst X41.here hx rfl (hb hby d12_76) ?_
                exact kt
              have hres : (1 : Int32) = (own_same p1 p2) := by unfold own_same; rw [if_pos hc12]; simp [own_s1, own_s2, own_s3, hc18, hc31, hc38, hc58, hc71]
              obtain ⟨fs, hr, hrun, hended, hW, hsame⟩ := X41.leave (v := some (.int (1 : Int32))) (fun h => by rw [Bd.returns] at h; cases h)
              refine ⟨_, _, pre43 _ ?_, hrun, hended, _, _, rfl, ?_, ⟨_, rfl⟩, hW, hsame.mono (by decide) (by decide)⟩
              · show Steps p.tables e below (T41.setTop (mkF m 77 #[.val (.int p1), .val (.int p2), .val (.int (own_f2 p1)), .val (.int (own_f2 p2))] [(.int (1 : Int32))])) _
                exact retN X41 hx (t := .boolean) Bd.returns (by simp) (hb hby d12_77) hr
              · show Qrm12 Z p1 p2 h0 n0 _ T41.heap _
                rw [e41]
                exact ⟨congrArg some (congrArg Value.int hres), N41, rfl⟩
            · have pre44 : ∀ t, Steps p.tables e below (T41.setTop (mkF m 74 #[.val (.int p1), .val (.int p2), .val (.int (own_f2 p1)), .val (.int (own_f2 p2))] [])) t → Steps p.tables e below (s₁.setTop (entryFrame m #[(.int p1), (.int p2)] 4)) t := by
                intro t kt
                refine pre41 t ?_
                show Steps p.tables e below (T41.setTop (mkF m 71 #[.val (.int p1), .val (.int p2), .val (.int (own_f2 p1)), .val (.int (own_f2 p2))] [(.int (own_f6 p2 (2 : Int32))), (.int (own_f6 p1 (2 : Int32)))])) _
                refine XS.icmpNo X41.here hx rfl (hb hby d12_71) rfl (feq hc71).1 ?_
                exact kt
              have pre45 : ∀ t, Steps p.tables e below (T41.setTop (mkF m 75 #[.val (.int p1), .val (.int p2), .val (.int (own_f2 p1)), .val (.int (own_f2 p2))] [(.int (0 : Int32))])) t → Steps p.tables e below (s₁.setTop (entryFrame m #[(.int p1), (.int p2)] 4)) t := by
                intro t kt
                refine pre44 t ?_
                show Steps p.tables e below (T41.setTop (mkF m 74 #[.val (.int p1), .val (.int p2), .val (.int (own_f2 p1)), .val (.int (own_f2 p2))] [])) _
                refine XS.iconst X41.here hx rfl (hb hby d12_74) ?_
                exact kt
              have hres : (0 : Int32) = (own_same p1 p2) := by unfold own_same; rw [if_pos hc12]; simp [own_s1, own_s2, own_s3, hc18, hc31, hc38, hc58, hc71]
              obtain ⟨fs, hr, hrun, hended, hW, hsame⟩ := X41.leave (v := some (.int (0 : Int32))) (fun h => by rw [Bd.returns] at h; cases h)
              refine ⟨_, _, pre45 _ ?_, hrun, hended, _, _, rfl, ?_, ⟨_, rfl⟩, hW, hsame.mono (by decide) (by decide)⟩
              · show Steps p.tables e below (T41.setTop (mkF m 75 #[.val (.int p1), .val (.int p2), .val (.int (own_f2 p1)), .val (.int (own_f2 p2))] [(.int (0 : Int32))])) _
                exact retN X41 hx (t := .boolean) Bd.returns (by simp) (hb hby d12_75) hr
              · show Qrm12 Z p1 p2 h0 n0 _ T41.heap _
                rw [e41]
                exact ⟨congrArg some (congrArg Value.int hres), N41, rfl⟩
          · have pre46 : ∀ t, Steps p.tables e below (T12.setTop (mkF m 76 #[.val (.int p1), .val (.int p2), .val (.int (own_f2 p1)), .val (.int (own_f2 p2))] [])) t → Steps p.tables e below (s₁.setTop (entryFrame m #[(.int p1), (.int p2)] 4)) t := by
              intro t kt
              refine pre36 t ?_
              show Steps p.tables e below (T12.setTop (mkF m 58 #[.val (.int p1), .val (.int p2), .val (.int (own_f2 p1)), .val (.int (own_f2 p2))] [(.int (2 : Int32)), (.int (own_f2 p1))])) _
              refine XS.icmpYes X12.here hx rfl (pc0 := 58) (pc' := 76) rfl (hb hby d12_58) rfl (flt hc58).2.2.2 (by decide) (by decide) ?_
              exact kt
            have pre47 : ∀ t, Steps p.tables e below (T12.setTop (mkF m 77 #[.val (.int p1), .val (.int p2), .val (.int (own_f2 p1)), .val (.int (own_f2 p2))] [(.int (1 : Int32))])) t → Steps p.tables e below (s₁.setTop (entryFrame m #[(.int p1), (.int p2)] 4)) t := by
              intro t kt
              refine pre46 t ?_
              show Steps p.tables e below (T12.setTop (mkF m 76 #[.val (.int p1), .val (.int p2), .val (.int (own_f2 p1)), .val (.int (own_f2 p2))] [])) _
              refine XS.iconst X12.here hx rfl (hb hby d12_76) ?_
              exact kt
            have hres : (1 : Int32) = (own_same p1 p2) := by unfold own_same; rw [if_pos hc12]; simp [own_s1, own_s2, own_s3, hc18, hc31, hc38, hc58]
            obtain ⟨fs, hr, hrun, hended, hW, hsame⟩ := X12.leave (v := some (.int (1 : Int32))) (fun h => by rw [Bd.returns] at h; cases h)
            refine ⟨_, _, pre47 _ ?_, hrun, hended, _, _, rfl, ?_, ⟨_, rfl⟩, hW, hsame.mono (by decide) (by decide)⟩
            · show Steps p.tables e below (T12.setTop (mkF m 77 #[.val (.int p1), .val (.int p2), .val (.int (own_f2 p1)), .val (.int (own_f2 p2))] [(.int (1 : Int32))])) _
              exact retN X12 hx (t := .boolean) Bd.returns (by simp) (hb hby d12_77) hr
            · show Qrm12 Z p1 p2 h0 n0 _ T12.heap _
              rw [e12]
              exact ⟨congrArg some (congrArg Value.int hres), N12, rfl⟩
      · have pre48 : ∀ t, Steps p.tables e below (T12.setTop (mkF m 34 #[.val (.int p1), .val (.int p2), .val (.int (own_f2 p1)), .val (.int (own_f2 p2))] [])) t → Steps p.tables e below (s₁.setTop (entryFrame m #[(.int p1), (.int p2)] 4)) t := by
          intro t kt
          refine pre12 t ?_
          show Steps p.tables e below (T12.setTop (mkF m 31 #[.val (.int p1), .val (.int p2), .val (.int (own_f2 p1)), .val (.int (own_f2 p2))] [(.int (own_f6 p2 (0 : Int32))), (.int (own_f6 p1 (0 : Int32)))])) _
          refine XS.icmpNo X12.here hx rfl (hb hby d12_31) rfl (feq hc31).1 ?_
          exact kt
        have pre49 : ∀ t, Steps p.tables e below (T12.setTop (mkF m 35 #[.val (.int p1), .val (.int p2), .val (.int (own_f2 p1)), .val (.int (own_f2 p2))] [(.int (0 : Int32))])) t → Steps p.tables e below (s₁.setTop (entryFrame m #[(.int p1), (.int p2)] 4)) t := by
          intro t kt
          refine pre48 t ?_
          show Steps p.tables e below (T12.setTop (mkF m 34 #[.val (.int p1), .val (.int p2), .val (.int (own_f2 p1)), .val (.int (own_f2 p2))] [])) _
          refine XS.iconst X12.here hx rfl (hb hby d12_34) ?_
          exact kt
        have hres : (0 : Int32) = (own_same p1 p2) := by unfold own_same; rw [if_pos hc12]; simp [own_s1, own_s2, own_s3, hc18, hc31]
        obtain ⟨fs, hr, hrun, hended, hW, hsame⟩ := X12.leave (v := some (.int (0 : Int32))) (fun h => by rw [Bd.returns] at h; cases h)
        refine ⟨_, _, pre49 _ ?_, hrun, hended, _, _, rfl, ?_, ⟨_, rfl⟩, hW, hsame.mono (by decide) (by decide)⟩
        · show Steps p.tables e below (T12.setTop (mkF m 35 #[.val (.int p1), .val (.int p2), .val (.int (own_f2 p1)), .val (.int (own_f2 p2))] [(.int (0 : Int32))])) _
          exact retN X12 hx (t := .boolean) Bd.returns (by simp) (hb hby d12_35) hr
        · show Qrm12 Z p1 p2 h0 n0 _ T12.heap _
          rw [e12]
          exact ⟨congrArg some (congrArg Value.int hres), N12, rfl⟩
    · have pre50 : ∀ t, Steps p.tables e below (T4.setTop (mkF m 36 #[.val (.int p1), .val (.int p2), .val (.int (own_f2 p1)), .val (.int (own_f2 p2))] [])) t → Steps p.tables e below (s₁.setTop (entryFrame m #[(.int p1), (.int p2)] 4)) t := by
        intro t kt
        refine pre7 t ?_
        show Steps p.tables e below (T4.setTop (mkF m 18 #[.val (.int p1), .val (.int p2), .val (.int (own_f2 p1)), .val (.int (own_f2 p2))] [(.int (own_f2 p1))])) _
        refine XS.ifYes X4.here hx rfl (pc0 := 18) (pc' := 36) rfl (hb hby d12_18) rfl ((if0 _ _).trans (flt hc18).2.2.2) (by decide) (by decide) ?_
        exact kt
      have pre51 : ∀ t, Steps p.tables e below (T4.setTop (mkF m 38 #[.val (.int p1), .val (.int p2), .val (.int (own_f2 p1)), .val (.int (own_f2 p2))] [(.int (1 : Int32)), (.int (own_f2 p1))])) t → Steps p.tables e below (s₁.setTop (entryFrame m #[(.int p1), (.int p2)] 4)) t := by
        intro t kt
        refine pre50 t ?_
        show Steps p.tables e below (T4.setTop (mkF m 36 #[.val (.int p1), .val (.int p2), .val (.int (own_f2 p1)), .val (.int (own_f2 p2))] [])) _
        refine XS.iloadN X4.here hx rfl (hb hby d12_36) rfl ?_
        show Steps p.tables e below (T4.setTop (mkF m 37 #[.val (.int p1), .val (.int p2), .val (.int (own_f2 p1)), .val (.int (own_f2 p2))] [(.int (own_f2 p1))])) _
        refine XS.iconst X4.here hx rfl (hb hby d12_37) ?_
        exact kt
      by_cases hc38 : (1 : Int32) < (own_f2 p1)
      · have pre52 : ∀ t, Steps p.tables e below (T4.setTop (mkF m 41 #[.val (.int p1), .val (.int p2), .val (.int (own_f2 p1)), .val (.int (own_f2 p2))] [])) t → Steps p.tables e below (s₁.setTop (entryFrame m #[(.int p1), (.int p2)] 4)) t := by
          intro t kt
          refine pre51 t ?_
          show Steps p.tables e below (T4.setTop (mkF m 38 #[.val (.int p1), .val (.int p2), .val (.int (own_f2 p1)), .val (.int (own_f2 p2))] [(.int (1 : Int32)), (.int (own_f2 p1))])) _
          refine XS.icmpNo X4.here hx rfl (hb hby d12_38) rfl (tlt hc38).2.2.2 ?_
          exact kt
        have pre53 : ∀ t, Steps p.tables e below (T4.setTop (mkF m 43 #[.val (.int p1), .val (.int p2), .val (.int (own_f2 p1)), .val (.int (own_f2 p2))] [(.int (1 : Int32)), (.int p1)])) t → Steps p.tables e below (s₁.setTop (entryFrame m #[(.int p1), (.int p2)] 4)) t := by
          intro t kt
          refine pre52 t ?_
          show Steps p.tables e below (T4.setTop (mkF m 41 #[.val (.int p1), .val (.int p2), .val (.int (own_f2 p1)), .val (.int (own_f2 p2))] [])) _
          refine XS.iloadN X4.here hx rfl (hb hby d12_41) rfl ?_
          show Steps p.tables e below (T4.setTop (mkF m 42 #[.val (.int p1), .val (.int p2), .val (.int (own_f2 p1)), .val (.int (own_f2 p2))] [(.int p1)])) _
          refine XS.iconst X4.here hx rfl (hb hby d12_42) ?_
          exact kt
        obtain ⟨_, _, ⟨T54, L54, k54, n54⟩, -, X54, ⟨Lc54, hQ54, l54, y54, z54⟩, st54⟩ := Jvm.LawKit.callS X4 hx (y := (⟨"com/example/vertumnus/vertumnus/TableNameEqualsPinLaw", "ch", "(II)I"⟩ : MethodName)) hown (mvT hZ (hw _ (List.mem_of_getElem? (i := 32) rfl))) (mvT hZ (hw _ (List.mem_of_getElem? (i := 33) rfl))) (mvT hZ (hw _ (List.mem_of_getElem? (i := 5) rfl))) (mvT hZ (hw _ (List.mem_of_getElem? (i := 34) rfl))) (by decide) (backOf (W := 0) (rm6 l Z a0 hw [] p1 (1 : Int32) h0 n0) hZ (hw _ (List.mem_of_getElem? (i := 34) rfl)) (hw _ (List.mem_of_getElem? (i := 5) rfl)) (by decide) (by decide)) (g := (mkF m 43 #[.val (.int p1), .val (.int p2), .val (.int (own_f2 p1)), .val (.int (own_f2 p2))] [(.int (1 : Int32)), (.int p1)])) rfl (by rw [hml]; rfl) (argsL := [(.int p1), (.int (1 : Int32))]) (rest := []) (lenOf pd_3 rfl) rfl (by show 2 * 0 + _ ≤ _; exact Nat.le_of_eq rfl) (hb hby d12_43) (fun _ _ => ⟨rfl, e4, (by decide : 0 + 0 ≤ _), (by decide : 0 + 0 ≤ _)⟩)
        dsimp only [Pt.U, Pt.locs, Pt.cells, Pt.slots] at X54 l54 y54 z54 st54 hQ54
        subst l54 y54 z54
        obtain ⟨rfl, N54q, e54⟩ := hQ54
        have N54 := Fr.app N4 N54q
        have pre54 : ∀ t, Steps p.tables e below (T54.setTop (mkF m 46 #[.val (.int p1), .val (.int p2), .val (.int (own_f2 p1)), .val (.int (own_f2 p2))] [(.int (own_f6 p1 (1 : Int32)))])) t → Steps p.tables e below (s₁.setTop (entryFrame m #[(.int p1), (.int p2)] 4)) t := fun t kt => pre53 t (st54 _ kt)
        have pre55 : ∀ t, Steps p.tables e below (T54.setTop (mkF m 48 #[.val (.int p1), .val (.int p2), .val (.int (own_f2 p1)), .val (.int (own_f2 p2))] [(.int (1 : Int32)), (.int p2), (.int (own_f6 p1 (1 : Int32)))])) t → Steps p.tables e below (s₁.setTop (entryFrame m #[(.int p1), (.int p2)] 4)) t := by
          intro t kt
          refine pre54 t ?_
          show Steps p.tables e below (T54.setTop (mkF m 46 #[.val (.int p1), .val (.int p2), .val (.int (own_f2 p1)), .val (.int (own_f2 p2))] [(.int (own_f6 p1 (1 : Int32)))])) _
          refine XS.iloadN X54.here hx rfl (hb hby d12_46) rfl ?_
          show Steps p.tables e below (T54.setTop (mkF m 47 #[.val (.int p1), .val (.int p2), .val (.int (own_f2 p1)), .val (.int (own_f2 p2))] [(.int p2), (.int (own_f6 p1 (1 : Int32)))])) _
          refine XS.iconst X54.here hx rfl (hb hby d12_47) ?_
          exact kt
        obtain ⟨_, _, ⟨T56, L56, k56, n56⟩, -, X56, ⟨Lc56, hQ56, l56, y56, z56⟩, st56⟩ := Jvm.LawKit.callS X54 hx (y := (⟨"com/example/vertumnus/vertumnus/TableNameEqualsPinLaw", "ch", "(II)I"⟩ : MethodName)) hown (mvT hZ (hw _ (List.mem_of_getElem? (i := 32) rfl))) (mvT hZ (hw _ (List.mem_of_getElem? (i := 33) rfl))) (mvT hZ (hw _ (List.mem_of_getElem? (i := 5) rfl))) (mvT hZ (hw _ (List.mem_of_getElem? (i := 34) rfl))) (by decide) (backOf (W := 1) (rm6 l Z a0 hw [] p2 (1 : Int32) h0 n0) hZ (hw _ (List.mem_of_getElem? (i := 34) rfl)) (hw _ (List.mem_of_getElem? (i := 5) rfl)) (by decide) (by decide)) (g := (mkF m 48 #[.val (.int p1), .val (.int p2), .val (.int (own_f2 p1)), .val (.int (own_f2 p2))] [(.int (1 : Int32)), (.int p2), (.int (own_f6 p1 (1 : Int32)))])) rfl (by rw [hml]; rfl) (argsL := [(.int p2), (.int (1 : Int32))]) (rest := [(.int (own_f6 p1 (1 : Int32)))]) (lenOf pd_3 rfl) rfl (by show 2 * 0 + _ ≤ _; exact Nat.le_of_eq rfl) (hb hby d12_48) (fun _ _ => ⟨rfl, e54, (by decide : 0 + 0 ≤ _), (by decide : 0 + 0 ≤ _)⟩)
        dsimp only [Pt.U, Pt.locs, Pt.cells, Pt.slots] at X56 l56 y56 z56 st56 hQ56
        subst l56 y56 z56
        obtain ⟨rfl, N56q, e56⟩ := hQ56
        have N56 := Fr.app N54 N56q
        have pre56 : ∀ t, Steps p.tables e below (T56.setTop (mkF m 51 #[.val (.int p1), .val (.int p2), .val (.int (own_f2 p1)), .val (.int (own_f2 p2))] [(.int (own_f6 p2 (1 : Int32))), (.int (own_f6 p1 (1 : Int32)))])) t → Steps p.tables e below (s₁.setTop (entryFrame m #[(.int p1), (.int p2)] 4)) t := fun t kt => pre55 t (st56 _ kt)
        by_cases hc51 : (own_f6 p1 (1 : Int32)) = (own_f6 p2 (1 : Int32))
        · have pre57 : ∀ t, Steps p.tables e below (T56.setTop (mkF m 56 #[.val (.int p1), .val (.int p2), .val (.int (own_f2 p1)), .val (.int (own_f2 p2))] [])) t → Steps p.tables e below (s₁.setTop (entryFrame m #[(.int p1), (.int p2)] 4)) t := by
            intro t kt
            refine pre56 t ?_
            show Steps p.tables e below (T56.setTop (mkF m 51 #[.val (.int p1), .val (.int p2), .val (.int (own_f2 p1)), .val (.int (own_f2 p2))] [(.int (own_f6 p2 (1 : Int32))), (.int (own_f6 p1 (1 : Int32)))])) _
            refine XS.icmpYes X56.here hx rfl (pc0 := 51) (pc' := 56) rfl (hb hby d12_51) rfl (teq hc51).1 (by decide) (by decide) ?_
            exact kt
          have pre58 : ∀ t, Steps p.tables e below (T56.setTop (mkF m 58 #[.val (.int p1), .val (.int p2), .val (.int (own_f2 p1)), .val (.int (own_f2 p2))] [(.int (2 : Int32)), (.int (own_f2 p1))])) t → Steps p.tables e below (s₁.setTop (entryFrame m #[(.int p1), (.int p2)] 4)) t := by
            intro t kt
            refine pre57 t ?_
            show Steps p.tables e below (T56.setTop (mkF m 56 #[.val (.int p1), .val (.int p2), .val (.int (own_f2 p1)), .val (.int (own_f2 p2))] [])) _
            refine XS.iloadN X56.here hx rfl (hb hby d12_56) rfl ?_
            show Steps p.tables e below (T56.setTop (mkF m 57 #[.val (.int p1), .val (.int p2), .val (.int (own_f2 p1)), .val (.int (own_f2 p2))] [(.int (own_f2 p1))])) _
            refine XS.iconst X56.here hx rfl (hb hby d12_57) ?_
            exact kt
          by_cases hc58 : (2 : Int32) < (own_f2 p1)
          · have pre59 : ∀ t, Steps p.tables e below (T56.setTop (mkF m 61 #[.val (.int p1), .val (.int p2), .val (.int (own_f2 p1)), .val (.int (own_f2 p2))] [])) t → Steps p.tables e below (s₁.setTop (entryFrame m #[(.int p1), (.int p2)] 4)) t := by
              intro t kt
              refine pre58 t ?_
              show Steps p.tables e below (T56.setTop (mkF m 58 #[.val (.int p1), .val (.int p2), .val (.int (own_f2 p1)), .val (.int (own_f2 p2))] [(.int (2 : Int32)), (.int (own_f2 p1))])) _
              refine XS.icmpNo X56.here hx rfl (hb hby d12_58) rfl (tlt hc58).2.2.2 ?_
              exact kt
            have pre60 : ∀ t, Steps p.tables e below (T56.setTop (mkF m 63 #[.val (.int p1), .val (.int p2), .val (.int (own_f2 p1)), .val (.int (own_f2 p2))] [(.int (2 : Int32)), (.int p1)])) t → Steps p.tables e below (s₁.setTop (entryFrame m #[(.int p1), (.int p2)] 4)) t := by
              intro t kt
              refine pre59 t ?_
              show Steps p.tables e below (T56.setTop (mkF m 61 #[.val (.int p1), .val (.int p2), .val (.int (own_f2 p1)), .val (.int (own_f2 p2))] [])) _
              refine XS.iloadN X56.here hx rfl (hb hby d12_61) rfl ?_
              show Steps p.tables e below (T56.setTop (mkF m 62 #[.val (.int p1), .val (.int p2), .val (.int (own_f2 p1)), .val (.int (own_f2 p2))] [(.int p1)])) _
              refine XS.iconst X56.here hx rfl (hb hby d12_62) ?_
              exact kt
            obtain ⟨_, _, ⟨T61, L61, k61, n61⟩, -, X61, ⟨Lc61, hQ61, l61, y61, z61⟩, st61⟩ := Jvm.LawKit.callS X56 hx (y := (⟨"com/example/vertumnus/vertumnus/TableNameEqualsPinLaw", "ch", "(II)I"⟩ : MethodName)) hown (mvT hZ (hw _ (List.mem_of_getElem? (i := 32) rfl))) (mvT hZ (hw _ (List.mem_of_getElem? (i := 33) rfl))) (mvT hZ (hw _ (List.mem_of_getElem? (i := 5) rfl))) (mvT hZ (hw _ (List.mem_of_getElem? (i := 34) rfl))) (by decide) (backOf (W := 0) (rm6 l Z a0 hw [] p1 (2 : Int32) h0 n0) hZ (hw _ (List.mem_of_getElem? (i := 34) rfl)) (hw _ (List.mem_of_getElem? (i := 5) rfl)) (by decide) (by decide)) (g := (mkF m 63 #[.val (.int p1), .val (.int p2), .val (.int (own_f2 p1)), .val (.int (own_f2 p2))] [(.int (2 : Int32)), (.int p1)])) rfl (by rw [hml]; rfl) (argsL := [(.int p1), (.int (2 : Int32))]) (rest := []) (lenOf pd_3 rfl) rfl (by show 2 * 0 + _ ≤ _; exact Nat.le_of_eq rfl) (hb hby d12_63) (fun _ _ => ⟨rfl, e56, (by decide : 0 + 0 ≤ _), (by decide : 0 + 0 ≤ _)⟩)
            dsimp only [Pt.U, Pt.locs, Pt.cells, Pt.slots] at X61 l61 y61 z61 st61 hQ61
            subst l61 y61 z61
            obtain ⟨rfl, N61q, e61⟩ := hQ61
            have N61 := Fr.app N56 N61q
            have pre61 : ∀ t, Steps p.tables e below (T61.setTop (mkF m 66 #[.val (.int p1), .val (.int p2), .val (.int (own_f2 p1)), .val (.int (own_f2 p2))] [(.int (own_f6 p1 (2 : Int32)))])) t → Steps p.tables e below (s₁.setTop (entryFrame m #[(.int p1), (.int p2)] 4)) t := fun t kt => pre60 t (st61 _ kt)
            have pre62 : ∀ t, Steps p.tables e below (T61.setTop (mkF m 68 #[.val (.int p1), .val (.int p2), .val (.int (own_f2 p1)), .val (.int (own_f2 p2))] [(.int (2 : Int32)), (.int p2), (.int (own_f6 p1 (2 : Int32)))])) t → Steps p.tables e below (s₁.setTop (entryFrame m #[(.int p1), (.int p2)] 4)) t := by
              intro t kt
              refine pre61 t ?_
              show Steps p.tables e below (T61.setTop (mkF m 66 #[.val (.int p1), .val (.int p2), .val (.int (own_f2 p1)), .val (.int (own_f2 p2))] [(.int (own_f6 p1 (2 : Int32)))])) _
              refine XS.iloadN X61.here hx rfl (hb hby d12_66) rfl ?_
              show Steps p.tables e below (T61.setTop (mkF m 67 #[.val (.int p1), .val (.int p2), .val (.int (own_f2 p1)), .val (.int (own_f2 p2))] [(.int p2), (.int (own_f6 p1 (2 : Int32)))])) _
              refine XS.iconst X61.here hx rfl (hb hby d12_67) ?_
              exact kt
            obtain ⟨_, _, ⟨T63, L63, k63, n63⟩, -, X63, ⟨Lc63, hQ63, l63, y63, z63⟩, st63⟩ := Jvm.LawKit.callS X61 hx (y := (⟨"com/example/vertumnus/vertumnus/TableNameEqualsPinLaw", "ch", "(II)I"⟩ : MethodName)) hown (mvT hZ (hw _ (List.mem_of_getElem? (i := 32) rfl))) (mvT hZ (hw _ (List.mem_of_getElem? (i := 33) rfl))) (mvT hZ (hw _ (List.mem_of_getElem? (i := 5) rfl))) (mvT hZ (hw _ (List.mem_of_getElem? (i := 34) rfl))) (by decide) (backOf (W := 1) (rm6 l Z a0 hw [] p2 (2 : Int32) h0 n0) hZ (hw _ (List.mem_of_getElem? (i := 34) rfl)) (hw _ (List.mem_of_getElem? (i := 5) rfl)) (by decide) (by decide)) (g := (mkF m 68 #[.val (.int p1), .val (.int p2), .val (.int (own_f2 p1)), .val (.int (own_f2 p2))] [(.int (2 : Int32)), (.int p2), (.int (own_f6 p1 (2 : Int32)))])) rfl (by rw [hml]; rfl) (argsL := [(.int p2), (.int (2 : Int32))]) (rest := [(.int (own_f6 p1 (2 : Int32)))]) (lenOf pd_3 rfl) rfl (by show 2 * 0 + _ ≤ _; exact Nat.le_of_eq rfl) (hb hby d12_68) (fun _ _ => ⟨rfl, e61, (by decide : 0 + 0 ≤ _), (by decide : 0 + 0 ≤ _)⟩)
            dsimp only [Pt.U, Pt.locs, Pt.cells, Pt.slots] at X63 l63 y63 z63 st63 hQ63
            subst l63 y63 z63
            obtain ⟨rfl, N63q, e63⟩ := hQ63
            have N63 := Fr.app N61 N63q
            have pre63 : ∀ t, Steps p.tables e below (T63.setTop (mkF m 71 #[.val (.int p1), .val (.int p2), .val (.int (own_f2 p1)), .val (.int (own_f2 p2))] [(.int (own_f6 p2 (2 : Int32))), (.int (own_f6 p1 (2 : Int32)))])) t → Steps p.tables e below (s₁.setTop (entryFrame m #[(.int p1), (.int p2)] 4)) t := fun t kt => pre62 t (st63 _ kt)
            by_cases hc71 : (own_f6 p1 (2 : Int32)) = (own_f6 p2 (2 : Int32))
            · have pre64 : ∀ t, Steps p.tables e below (T63.setTop (mkF m 76 #[.val (.int p1), .val (.int p2), .val (.int (own_f2 p1)), .val (.int (own_f2 p2))] [])) t → Steps p.tables e below (s₁.setTop (entryFrame m #[(.int p1), (.int p2)] 4)) t := by
                intro t kt
                refine pre63 t ?_
                show Steps p.tables e below (T63.setTop (mkF m 71 #[.val (.int p1), .val (.int p2), .val (.int (own_f2 p1)), .val (.int (own_f2 p2))] [(.int (own_f6 p2 (2 : Int32))), (.int (own_f6 p1 (2 : Int32)))])) _
                refine XS.icmpYes X63.here hx rfl (pc0 := 71) (pc' := 76) rfl (hb hby d12_71) rfl (teq hc71).1 (by decide) (by decide) ?_
                exact kt
              have pre65 : ∀ t, Steps p.tables e below (T63.setTop (mkF m 77 #[.val (.int p1), .val (.int p2), .val (.int (own_f2 p1)), .val (.int (own_f2 p2))] [(.int (1 : Int32))])) t → Steps p.tables e below (s₁.setTop (entryFrame m #[(.int p1), (.int p2)] 4)) t := by
                intro t kt
                refine pre64 t ?_
                show Steps p.tables e below (T63.setTop (mkF m 76 #[.val (.int p1), .val (.int p2), .val (.int (own_f2 p1)), .val (.int (own_f2 p2))] [])) _
                refine XS.iconst X63.here hx rfl (hb hby d12_76) ?_
                exact kt
              have hres : (1 : Int32) = (own_same p1 p2) := by unfold own_same; rw [if_pos hc12]; simp [own_s1, own_s2, own_s3, hc18, hc38, hc51, hc58, hc71]
              obtain ⟨fs, hr, hrun, hended, hW, hsame⟩ := X63.leave (v := some (.int (1 : Int32))) (fun h => by rw [Bd.returns] at h; cases h)
              refine ⟨_, _, pre65 _ ?_, hrun, hended, _, _, rfl, ?_, ⟨_, rfl⟩, hW, hsame.mono (by decide) (by decide)⟩
              · show Steps p.tables e below (T63.setTop (mkF m 77 #[.val (.int p1), .val (.int p2), .val (.int (own_f2 p1)), .val (.int (own_f2 p2))] [(.int (1 : Int32))])) _
                exact retN X63 hx (t := .boolean) Bd.returns (by simp) (hb hby d12_77) hr
              · show Qrm12 Z p1 p2 h0 n0 _ T63.heap _
                rw [e63]
                exact ⟨congrArg some (congrArg Value.int hres), N63, rfl⟩
            · have pre66 : ∀ t, Steps p.tables e below (T63.setTop (mkF m 74 #[.val (.int p1), .val (.int p2), .val (.int (own_f2 p1)), .val (.int (own_f2 p2))] [])) t → Steps p.tables e below (s₁.setTop (entryFrame m #[(.int p1), (.int p2)] 4)) t := by
                intro t kt
                refine pre63 t ?_
                show Steps p.tables e below (T63.setTop (mkF m 71 #[.val (.int p1), .val (.int p2), .val (.int (own_f2 p1)), .val (.int (own_f2 p2))] [(.int (own_f6 p2 (2 : Int32))), (.int (own_f6 p1 (2 : Int32)))])) _
                refine XS.icmpNo X63.here hx rfl (hb hby d12_71) rfl (feq hc71).1 ?_
                exact kt
              have pre67 : ∀ t, Steps p.tables e below (T63.setTop (mkF m 75 #[.val (.int p1), .val (.int p2), .val (.int (own_f2 p1)), .val (.int (own_f2 p2))] [(.int (0 : Int32))])) t → Steps p.tables e below (s₁.setTop (entryFrame m #[(.int p1), (.int p2)] 4)) t := by
                intro t kt
                refine pre66 t ?_
                show Steps p.tables e below (T63.setTop (mkF m 74 #[.val (.int p1), .val (.int p2), .val (.int (own_f2 p1)), .val (.int (own_f2 p2))] [])) _
                refine XS.iconst X63.here hx rfl (hb hby d12_74) ?_
                exact kt
              have hres : (0 : Int32) = (own_same p1 p2) := by unfold own_same; rw [if_pos hc12]; simp [own_s1, own_s2, own_s3, hc18, hc38, hc51, hc58, hc71]
              obtain ⟨fs, hr, hrun, hended, hW, hsame⟩ := X63.leave (v := some (.int (0 : Int32))) (fun h => by rw [Bd.returns] at h; cases h)
              refine ⟨_, _, pre67 _ ?_, hrun, hended, _, _, rfl, ?_, ⟨_, rfl⟩, hW, hsame.mono (by decide) (by decide)⟩
              · show Steps p.tables e below (T63.setTop (mkF m 75 #[.val (.int p1), .val (.int p2), .val (.int (own_f2 p1)), .val (.int (own_f2 p2))] [(.int (0 : Int32))])) _
                exact retN X63 hx (t := .boolean) Bd.returns (by simp) (hb hby d12_75) hr
              · show Qrm12 Z p1 p2 h0 n0 _ T63.heap _
                rw [e63]
                exact ⟨congrArg some (congrArg Value.int hres), N63, rfl⟩
          · have pre68 : ∀ t, Steps p.tables e below (T56.setTop (mkF m 76 #[.val (.int p1), .val (.int p2), .val (.int (own_f2 p1)), .val (.int (own_f2 p2))] [])) t → Steps p.tables e below (s₁.setTop (entryFrame m #[(.int p1), (.int p2)] 4)) t := by
              intro t kt
              refine pre58 t ?_
              show Steps p.tables e below (T56.setTop (mkF m 58 #[.val (.int p1), .val (.int p2), .val (.int (own_f2 p1)), .val (.int (own_f2 p2))] [(.int (2 : Int32)), (.int (own_f2 p1))])) _
              refine XS.icmpYes X56.here hx rfl (pc0 := 58) (pc' := 76) rfl (hb hby d12_58) rfl (flt hc58).2.2.2 (by decide) (by decide) ?_
              exact kt
            have pre69 : ∀ t, Steps p.tables e below (T56.setTop (mkF m 77 #[.val (.int p1), .val (.int p2), .val (.int (own_f2 p1)), .val (.int (own_f2 p2))] [(.int (1 : Int32))])) t → Steps p.tables e below (s₁.setTop (entryFrame m #[(.int p1), (.int p2)] 4)) t := by
              intro t kt
              refine pre68 t ?_
              show Steps p.tables e below (T56.setTop (mkF m 76 #[.val (.int p1), .val (.int p2), .val (.int (own_f2 p1)), .val (.int (own_f2 p2))] [])) _
              refine XS.iconst X56.here hx rfl (hb hby d12_76) ?_
              exact kt
            have hres : (1 : Int32) = (own_same p1 p2) := by unfold own_same; rw [if_pos hc12]; simp [own_s1, own_s2, own_s3, hc18, hc38, hc51, hc58]
            obtain ⟨fs, hr, hrun, hended, hW, hsame⟩ := X56.leave (v := some (.int (1 : Int32))) (fun h => by rw [Bd.returns] at h; cases h)
            refine ⟨_, _, pre69 _ ?_, hrun, hended, _, _, rfl, ?_, ⟨_, rfl⟩, hW, hsame.mono (by decide) (by decide)⟩
            · show Steps p.tables e below (T56.setTop (mkF m 77 #[.val (.int p1), .val (.int p2), .val (.int (own_f2 p1)), .val (.int (own_f2 p2))] [(.int (1 : Int32))])) _
              exact retN X56 hx (t := .boolean) Bd.returns (by simp) (hb hby d12_77) hr
            · show Qrm12 Z p1 p2 h0 n0 _ T56.heap _
              rw [e56]
              exact ⟨congrArg some (congrArg Value.int hres), N56, rfl⟩
        · have pre70 : ∀ t, Steps p.tables e below (T56.setTop (mkF m 54 #[.val (.int p1), .val (.int p2), .val (.int (own_f2 p1)), .val (.int (own_f2 p2))] [])) t → Steps p.tables e below (s₁.setTop (entryFrame m #[(.int p1), (.int p2)] 4)) t := by
            intro t kt
            refine pre56 t ?_
            show Steps p.tables e below (T56.setTop (mkF m 51 #[.val (.int p1), .val (.int p2), .val (.int (own_f2 p1)), .val (.int (own_f2 p2))] [(.int (own_f6 p2 (1 : Int32))), (.int (own_f6 p1 (1 : Int32)))])) _
            refine XS.icmpNo X56.here hx rfl (hb hby d12_51) rfl (feq hc51).1 ?_
            exact kt
          have pre71 : ∀ t, Steps p.tables e below (T56.setTop (mkF m 55 #[.val (.int p1), .val (.int p2), .val (.int (own_f2 p1)), .val (.int (own_f2 p2))] [(.int (0 : Int32))])) t → Steps p.tables e below (s₁.setTop (entryFrame m #[(.int p1), (.int p2)] 4)) t := by
            intro t kt
            refine pre70 t ?_
            show Steps p.tables e below (T56.setTop (mkF m 54 #[.val (.int p1), .val (.int p2), .val (.int (own_f2 p1)), .val (.int (own_f2 p2))] [])) _
            refine XS.iconst X56.here hx rfl (hb hby d12_54) ?_
            exact kt
          have hres : (0 : Int32) = (own_same p1 p2) := by unfold own_same; rw [if_pos hc12]; simp [own_s1, own_s2, own_s3, hc18, hc38, hc51]
          obtain ⟨fs, hr, hrun, hended, hW, hsame⟩ := X56.leave (v := some (.int (0 : Int32))) (fun h => by rw [Bd.returns] at h; cases h)
          refine ⟨_, _, pre71 _ ?_, hrun, hended, _, _, rfl, ?_, ⟨_, rfl⟩, hW, hsame.mono (by decide) (by decide)⟩
          · show Steps p.tables e below (T56.setTop (mkF m 55 #[.val (.int p1), .val (.int p2), .val (.int (own_f2 p1)), .val (.int (own_f2 p2))] [(.int (0 : Int32))])) _
            exact retN X56 hx (t := .boolean) Bd.returns (by simp) (hb hby d12_55) hr
          · show Qrm12 Z p1 p2 h0 n0 _ T56.heap _
            rw [e56]
            exact ⟨congrArg some (congrArg Value.int hres), N56, rfl⟩
      · have pre72 : ∀ t, Steps p.tables e below (T4.setTop (mkF m 56 #[.val (.int p1), .val (.int p2), .val (.int (own_f2 p1)), .val (.int (own_f2 p2))] [])) t → Steps p.tables e below (s₁.setTop (entryFrame m #[(.int p1), (.int p2)] 4)) t := by
          intro t kt
          refine pre51 t ?_
          show Steps p.tables e below (T4.setTop (mkF m 38 #[.val (.int p1), .val (.int p2), .val (.int (own_f2 p1)), .val (.int (own_f2 p2))] [(.int (1 : Int32)), (.int (own_f2 p1))])) _
          refine XS.icmpYes X4.here hx rfl (pc0 := 38) (pc' := 56) rfl (hb hby d12_38) rfl (flt hc38).2.2.2 (by decide) (by decide) ?_
          exact kt
        have pre73 : ∀ t, Steps p.tables e below (T4.setTop (mkF m 58 #[.val (.int p1), .val (.int p2), .val (.int (own_f2 p1)), .val (.int (own_f2 p2))] [(.int (2 : Int32)), (.int (own_f2 p1))])) t → Steps p.tables e below (s₁.setTop (entryFrame m #[(.int p1), (.int p2)] 4)) t := by
          intro t kt
          refine pre72 t ?_
          show Steps p.tables e below (T4.setTop (mkF m 56 #[.val (.int p1), .val (.int p2), .val (.int (own_f2 p1)), .val (.int (own_f2 p2))] [])) _
          refine XS.iloadN X4.here hx rfl (hb hby d12_56) rfl ?_
          show Steps p.tables e below (T4.setTop (mkF m 57 #[.val (.int p1), .val (.int p2), .val (.int (own_f2 p1)), .val (.int (own_f2 p2))] [(.int (own_f2 p1))])) _
          refine XS.iconst X4.here hx rfl (hb hby d12_57) ?_
          exact kt
        by_cases hc58 : (2 : Int32) < (own_f2 p1)
        · have pre74 : ∀ t, Steps p.tables e below (T4.setTop (mkF m 61 #[.val (.int p1), .val (.int p2), .val (.int (own_f2 p1)), .val (.int (own_f2 p2))] [])) t → Steps p.tables e below (s₁.setTop (entryFrame m #[(.int p1), (.int p2)] 4)) t := by
            intro t kt
            refine pre73 t ?_
            show Steps p.tables e below (T4.setTop (mkF m 58 #[.val (.int p1), .val (.int p2), .val (.int (own_f2 p1)), .val (.int (own_f2 p2))] [(.int (2 : Int32)), (.int (own_f2 p1))])) _
            refine XS.icmpNo X4.here hx rfl (hb hby d12_58) rfl (tlt hc58).2.2.2 ?_
            exact kt
          have pre75 : ∀ t, Steps p.tables e below (T4.setTop (mkF m 63 #[.val (.int p1), .val (.int p2), .val (.int (own_f2 p1)), .val (.int (own_f2 p2))] [(.int (2 : Int32)), (.int p1)])) t → Steps p.tables e below (s₁.setTop (entryFrame m #[(.int p1), (.int p2)] 4)) t := by
            intro t kt
            refine pre74 t ?_
            show Steps p.tables e below (T4.setTop (mkF m 61 #[.val (.int p1), .val (.int p2), .val (.int (own_f2 p1)), .val (.int (own_f2 p2))] [])) _
            refine XS.iloadN X4.here hx rfl (hb hby d12_61) rfl ?_
            show Steps p.tables e below (T4.setTop (mkF m 62 #[.val (.int p1), .val (.int p2), .val (.int (own_f2 p1)), .val (.int (own_f2 p2))] [(.int p1)])) _
            refine XS.iconst X4.here hx rfl (hb hby d12_62) ?_
            exact kt
          obtain ⟨_, _, ⟨T76, L76, k76, n76⟩, -, X76, ⟨Lc76, hQ76, l76, y76, z76⟩, st76⟩ := Jvm.LawKit.callS X4 hx (y := (⟨"com/example/vertumnus/vertumnus/TableNameEqualsPinLaw", "ch", "(II)I"⟩ : MethodName)) hown (mvT hZ (hw _ (List.mem_of_getElem? (i := 32) rfl))) (mvT hZ (hw _ (List.mem_of_getElem? (i := 33) rfl))) (mvT hZ (hw _ (List.mem_of_getElem? (i := 5) rfl))) (mvT hZ (hw _ (List.mem_of_getElem? (i := 34) rfl))) (by decide) (backOf (W := 0) (rm6 l Z a0 hw [] p1 (2 : Int32) h0 n0) hZ (hw _ (List.mem_of_getElem? (i := 34) rfl)) (hw _ (List.mem_of_getElem? (i := 5) rfl)) (by decide) (by decide)) (g := (mkF m 63 #[.val (.int p1), .val (.int p2), .val (.int (own_f2 p1)), .val (.int (own_f2 p2))] [(.int (2 : Int32)), (.int p1)])) rfl (by rw [hml]; rfl) (argsL := [(.int p1), (.int (2 : Int32))]) (rest := []) (lenOf pd_3 rfl) rfl (by show 2 * 0 + _ ≤ _; exact Nat.le_of_eq rfl) (hb hby d12_63) (fun _ _ => ⟨rfl, e4, (by decide : 0 + 0 ≤ _), (by decide : 0 + 0 ≤ _)⟩)
          dsimp only [Pt.U, Pt.locs, Pt.cells, Pt.slots] at X76 l76 y76 z76 st76 hQ76
          subst l76 y76 z76
          obtain ⟨rfl, N76q, e76⟩ := hQ76
          have N76 := Fr.app N4 N76q
          have pre76 : ∀ t, Steps p.tables e below (T76.setTop (mkF m 66 #[.val (.int p1), .val (.int p2), .val (.int (own_f2 p1)), .val (.int (own_f2 p2))] [(.int (own_f6 p1 (2 : Int32)))])) t → Steps p.tables e below (s₁.setTop (entryFrame m #[(.int p1), (.int p2)] 4)) t := fun t kt => pre75 t (st76 _ kt)
          have pre77 : ∀ t, Steps p.tables e below (T76.setTop (mkF m 68 #[.val (.int p1), .val (.int p2), .val (.int (own_f2 p1)), .val (.int (own_f2 p2))] [(.int (2 : Int32)), (.int p2), (.int (own_f6 p1 (2 : Int32)))])) t → Steps p.tables e below (s₁.setTop (entryFrame m #[(.int p1), (.int p2)] 4)) t := by
            intro t kt
            refine pre76 t ?_
            show Steps p.tables e below (T76.setTop (mkF m 66 #[.val (.int p1), .val (.int p2), .val (.int (own_f2 p1)), .val (.int (own_f2 p2))] [(.int (own_f6 p1 (2 : Int32)))])) _
            refine XS.iloadN X76.here hx rfl (hb hby d12_66) rfl ?_
            show Steps p.tables e below (T76.setTop (mkF m 67 #[.val (.int p1), .val (.int p2), .val (.int (own_f2 p1)), .val (.int (own_f2 p2))] [(.int p2), (.int (own_f6 p1 (2 : Int32)))])) _
            refine XS.iconst X76.here hx rfl (hb hby d12_67) ?_
            exact kt
          obtain ⟨_, _, ⟨T78, L78, k78, n78⟩, -, X78, ⟨Lc78, hQ78, l78, y78, z78⟩, st78⟩ := Jvm.LawKit.callS X76 hx (y := (⟨"com/example/vertumnus/vertumnus/TableNameEqualsPinLaw", "ch", "(II)I"⟩ : MethodName)) hown (mvT hZ (hw _ (List.mem_of_getElem? (i := 32) rfl))) (mvT hZ (hw _ (List.mem_of_getElem? (i := 33) rfl))) (mvT hZ (hw _ (List.mem_of_getElem? (i := 5) rfl))) (mvT hZ (hw _ (List.mem_of_getElem? (i := 34) rfl))) (by decide) (backOf (W := 1) (rm6 l Z a0 hw [] p2 (2 : Int32) h0 n0) hZ (hw _ (List.mem_of_getElem? (i := 34) rfl)) (hw _ (List.mem_of_getElem? (i := 5) rfl)) (by decide) (by decide)) (g := (mkF m 68 #[.val (.int p1), .val (.int p2), .val (.int (own_f2 p1)), .val (.int (own_f2 p2))] [(.int (2 : Int32)), (.int p2), (.int (own_f6 p1 (2 : Int32)))])) rfl (by rw [hml]; rfl) (argsL := [(.int p2), (.int (2 : Int32))]) (rest := [(.int (own_f6 p1 (2 : Int32)))]) (lenOf pd_3 rfl) rfl (by show 2 * 0 + _ ≤ _; exact Nat.le_of_eq rfl) (hb hby d12_68) (fun _ _ => ⟨rfl, e76, (by decide : 0 + 0 ≤ _), (by decide : 0 + 0 ≤ _)⟩)
          dsimp only [Pt.U, Pt.locs, Pt.cells, Pt.slots] at X78 l78 y78 z78 st78 hQ78
          subst l78 y78 z78
          obtain ⟨rfl, N78q, e78⟩ := hQ78
          have N78 := Fr.app N76 N78q
          have pre78 : ∀ t, Steps p.tables e below (T78.setTop (mkF m 71 #[.val (.int p1), .val (.int p2), .val (.int (own_f2 p1)), .val (.int (own_f2 p2))] [(.int (own_f6 p2 (2 : Int32))), (.int (own_f6 p1 (2 : Int32)))])) t → Steps p.tables e below (s₁.setTop (entryFrame m #[(.int p1), (.int p2)] 4)) t := fun t kt => pre77 t (st78 _ kt)
          by_cases hc71 : (own_f6 p1 (2 : Int32)) = (own_f6 p2 (2 : Int32))
          · have pre79 : ∀ t, Steps p.tables e below (T78.setTop (mkF m 76 #[.val (.int p1), .val (.int p2), .val (.int (own_f2 p1)), .val (.int (own_f2 p2))] [])) t → Steps p.tables e below (s₁.setTop (entryFrame m #[(.int p1), (.int p2)] 4)) t := by
              intro t kt
              refine pre78 t ?_
              show Steps p.tables e below (T78.setTop (mkF m 71 #[.val (.int p1), .val (.int p2), .val (.int (own_f2 p1)), .val (.int (own_f2 p2))] [(.int (own_f6 p2 (2 : Int32))), (.int (own_f6 p1 (2 : Int32)))])) _
              refine XS.icmpYes X78.here hx rfl (pc0 := 71) (pc' := 76) rfl (hb hby d12_71) rfl (teq hc71).1 (by decide) (by decide) ?_
              exact kt
            have pre80 : ∀ t, Steps p.tables e below (T78.setTop (mkF m 77 #[.val (.int p1), .val (.int p2), .val (.int (own_f2 p1)), .val (.int (own_f2 p2))] [(.int (1 : Int32))])) t → Steps p.tables e below (s₁.setTop (entryFrame m #[(.int p1), (.int p2)] 4)) t := by
              intro t kt
              refine pre79 t ?_
              show Steps p.tables e below (T78.setTop (mkF m 76 #[.val (.int p1), .val (.int p2), .val (.int (own_f2 p1)), .val (.int (own_f2 p2))] [])) _
              refine XS.iconst X78.here hx rfl (hb hby d12_76) ?_
              exact kt
            have hres : (1 : Int32) = (own_same p1 p2) := by unfold own_same; rw [if_pos hc12]; simp [own_s1, own_s2, own_s3, hc18, hc38, hc58, hc71]
            obtain ⟨fs, hr, hrun, hended, hW, hsame⟩ := X78.leave (v := some (.int (1 : Int32))) (fun h => by rw [Bd.returns] at h; cases h)
            refine ⟨_, _, pre80 _ ?_, hrun, hended, _, _, rfl, ?_, ⟨_, rfl⟩, hW, hsame.mono (by decide) (by decide)⟩
            · show Steps p.tables e below (T78.setTop (mkF m 77 #[.val (.int p1), .val (.int p2), .val (.int (own_f2 p1)), .val (.int (own_f2 p2))] [(.int (1 : Int32))])) _
              exact retN X78 hx (t := .boolean) Bd.returns (by simp) (hb hby d12_77) hr
            · show Qrm12 Z p1 p2 h0 n0 _ T78.heap _
              rw [e78]
              exact ⟨congrArg some (congrArg Value.int hres), N78, rfl⟩
          · have pre81 : ∀ t, Steps p.tables e below (T78.setTop (mkF m 74 #[.val (.int p1), .val (.int p2), .val (.int (own_f2 p1)), .val (.int (own_f2 p2))] [])) t → Steps p.tables e below (s₁.setTop (entryFrame m #[(.int p1), (.int p2)] 4)) t := by
              intro t kt
              refine pre78 t ?_
              show Steps p.tables e below (T78.setTop (mkF m 71 #[.val (.int p1), .val (.int p2), .val (.int (own_f2 p1)), .val (.int (own_f2 p2))] [(.int (own_f6 p2 (2 : Int32))), (.int (own_f6 p1 (2 : Int32)))])) _
              refine XS.icmpNo X78.here hx rfl (hb hby d12_71) rfl (feq hc71).1 ?_
              exact kt
            have pre82 : ∀ t, Steps p.tables e below (T78.setTop (mkF m 75 #[.val (.int p1), .val (.int p2), .val (.int (own_f2 p1)), .val (.int (own_f2 p2))] [(.int (0 : Int32))])) t → Steps p.tables e below (s₁.setTop (entryFrame m #[(.int p1), (.int p2)] 4)) t := by
              intro t kt
              refine pre81 t ?_
              show Steps p.tables e below (T78.setTop (mkF m 74 #[.val (.int p1), .val (.int p2), .val (.int (own_f2 p1)), .val (.int (own_f2 p2))] [])) _
              refine XS.iconst X78.here hx rfl (hb hby d12_74) ?_
              exact kt
            have hres : (0 : Int32) = (own_same p1 p2) := by unfold own_same; rw [if_pos hc12]; simp [own_s1, own_s2, own_s3, hc18, hc38, hc58, hc71]
            obtain ⟨fs, hr, hrun, hended, hW, hsame⟩ := X78.leave (v := some (.int (0 : Int32))) (fun h => by rw [Bd.returns] at h; cases h)
            refine ⟨_, _, pre82 _ ?_, hrun, hended, _, _, rfl, ?_, ⟨_, rfl⟩, hW, hsame.mono (by decide) (by decide)⟩
            · show Steps p.tables e below (T78.setTop (mkF m 75 #[.val (.int p1), .val (.int p2), .val (.int (own_f2 p1)), .val (.int (own_f2 p2))] [(.int (0 : Int32))])) _
              exact retN X78 hx (t := .boolean) Bd.returns (by simp) (hb hby d12_75) hr
            · show Qrm12 Z p1 p2 h0 n0 _ T78.heap _
              rw [e78]
              exact ⟨congrArg some (congrArg Value.int hres), N78, rfl⟩
        · have pre83 : ∀ t, Steps p.tables e below (T4.setTop (mkF m 76 #[.val (.int p1), .val (.int p2), .val (.int (own_f2 p1)), .val (.int (own_f2 p2))] [])) t → Steps p.tables e below (s₁.setTop (entryFrame m #[(.int p1), (.int p2)] 4)) t := by
            intro t kt
            refine pre73 t ?_
            show Steps p.tables e below (T4.setTop (mkF m 58 #[.val (.int p1), .val (.int p2), .val (.int (own_f2 p1)), .val (.int (own_f2 p2))] [(.int (2 : Int32)), (.int (own_f2 p1))])) _
            refine XS.icmpYes X4.here hx rfl (pc0 := 58) (pc' := 76) rfl (hb hby d12_58) rfl (flt hc58).2.2.2 (by decide) (by decide) ?_
            exact kt
          have pre84 : ∀ t, Steps p.tables e below (T4.setTop (mkF m 77 #[.val (.int p1), .val (.int p2), .val (.int (own_f2 p1)), .val (.int (own_f2 p2))] [(.int (1 : Int32))])) t → Steps p.tables e below (s₁.setTop (entryFrame m #[(.int p1), (.int p2)] 4)) t := by
            intro t kt
            refine pre83 t ?_
            show Steps p.tables e below (T4.setTop (mkF m 76 #[.val (.int p1), .val (.int p2), .val (.int (own_f2 p1)), .val (.int (own_f2 p2))] [])) _
            refine XS.iconst X4.here hx rfl (hb hby d12_76) ?_
            exact kt
          have hres : (1 : Int32) = (own_same p1 p2) := by unfold own_same; rw [if_pos hc12]; simp [own_s1, own_s2, own_s3, hc18, hc38, hc58]
          obtain ⟨fs, hr, hrun, hended, hW, hsame⟩ := X4.leave (v := some (.int (1 : Int32))) (fun h => by rw [Bd.returns] at h; cases h)
          refine ⟨_, _, pre84 _ ?_, hrun, hended, _, _, rfl, ?_, ⟨_, rfl⟩, hW, hsame.mono (by decide) (by decide)⟩
          · show Steps p.tables e below (T4.setTop (mkF m 77 #[.val (.int p1), .val (.int p2), .val (.int (own_f2 p1)), .val (.int (own_f2 p2))] [(.int (1 : Int32))])) _
            exact retN X4 hx (t := .boolean) Bd.returns (by simp) (hb hby d12_77) hr
          · show Qrm12 Z p1 p2 h0 n0 _ T4.heap _
            rw [e4]
            exact ⟨congrArg some (congrArg Value.int hres), N4, rfl⟩
  · have pre85 : ∀ t, Steps p.tables e below (T4.setTop (mkF m 15 #[.val (.int p1), .val (.int p2), .val (.int (own_f2 p1)), .val (.int (own_f2 p2))] [])) t → Steps p.tables e below (s₁.setTop (entryFrame m #[(.int p1), (.int p2)] 4)) t := by
      intro t kt
      refine pre5 t ?_
      show Steps p.tables e below (T4.setTop (mkF m 12 #[.val (.int p1), .val (.int p2), .val (.int (own_f2 p1)), .val (.int (own_f2 p2))] [(.int (own_f2 p2)), (.int (own_f2 p1))])) _
      refine XS.icmpNo X4.here hx rfl (hb hby d12_12) rfl (feq hc12).1 ?_
      exact kt
    have pre86 : ∀ t, Steps p.tables e below (T4.setTop (mkF m 16 #[.val (.int p1), .val (.int p2), .val (.int (own_f2 p1)), .val (.int (own_f2 p2))] [(.int (0 : Int32))])) t → Steps p.tables e below (s₁.setTop (entryFrame m #[(.int p1), (.int p2)] 4)) t := by
      intro t kt
      refine pre85 t ?_
      show Steps p.tables e below (T4.setTop (mkF m 15 #[.val (.int p1), .val (.int p2), .val (.int (own_f2 p1)), .val (.int (own_f2 p2))] [])) _
      refine XS.iconst X4.here hx rfl (hb hby d12_15) ?_
      exact kt
    have hres : (0 : Int32) = (own_same p1 p2) := by unfold own_same; rw [if_neg hc12]
    obtain ⟨fs, hr, hrun, hended, hW, hsame⟩ := X4.leave (v := some (.int (0 : Int32))) (fun h => by rw [Bd.returns] at h; cases h)
    refine ⟨_, _, pre86 _ ?_, hrun, hended, _, _, rfl, ?_, ⟨_, rfl⟩, hW, hsame.mono (by decide) (by decide)⟩
    · show Steps p.tables e below (T4.setTop (mkF m 16 #[.val (.int p1), .val (.int p2), .val (.int (own_f2 p1)), .val (.int (own_f2 p2))] [(.int (0 : Int32))])) _
      exact retN X4 hx (t := .boolean) Bd.returns (by simp) (hb hby d12_16) hr
    · show Qrm12 Z p1 p2 h0 n0 _ T4.heap _
      rw [e4]
      exact ⟨congrArg some (congrArg Value.int hres), N4, rfl⟩
def Qrm13t (Z : State) (a1 : Addr) (a2 : Addr) (cz : Int32) (s1 : Addr) (t1 : Addr) (k1 : ClassId) (ln1 : Int32) (cs1 : List Int32) (s2 : Addr) (t2 : Addr) (k2 : ClassId) (ln2 : Int32) (cs2 : List Int32) (s3 : Addr) (t3 : Addr) (k3 : ClassId) (ln3 : Int32) (cs3 : List Int32) (s4 : Addr) (t4 : Addr) (k4 : ClassId) (ln4 : Int32) (cs4 : List Int32) (h0 : Heap) (n0 : Nat) (v : Option Value) (h : Heap) (L : List Loc) : Prop := v = some (.int (own_eq2 cs1 cs3 cs2 cs4)) ∧ Fr n0 L ∧ h = h0
theorem d13_0 : decode prog_8_method_6_code 0 = .ok (.aload_n 1, 1) := by decide +kernel
theorem d13_1 : decode prog_8_method_6_code 1 = .ok (.instanceof 18, 3) := by decide +kernel
theorem d13_4 : decode prog_8_method_6_code 4 = .ok (.ifCond .eq 41, 3) := by decide +kernel
theorem d13_7 : decode prog_8_method_6_code 7 = .ok (.aload_n 0, 1) := by decide +kernel
theorem d13_8 : decode prog_8_method_6_code 8 = .ok (.getfield 17, 3) := by decide +kernel
theorem d13_11 : decode prog_8_method_6_code 11 = .ok (.aload_n 1, 1) := by decide +kernel
theorem d13_12 : decode prog_8_method_6_code 12 = .ok (.checkcast 18, 3) := by decide +kernel
theorem d13_15 : decode prog_8_method_6_code 15 = .ok (.getfield 17, 3) := by decide +kernel
theorem d13_18 : decode prog_8_method_6_code 18 = .ok (.invokevirtual 28, 3) := by decide +kernel
theorem d13_21 : decode prog_8_method_6_code 21 = .ok (.ifCond .eq 24, 3) := by decide +kernel
theorem d13_24 : decode prog_8_method_6_code 24 = .ok (.aload_n 0, 1) := by decide +kernel
theorem d13_25 : decode prog_8_method_6_code 25 = .ok (.getfield 24, 3) := by decide +kernel
theorem d13_28 : decode prog_8_method_6_code 28 = .ok (.aload_n 1, 1) := by decide +kernel
theorem d13_29 : decode prog_8_method_6_code 29 = .ok (.checkcast 18, 3) := by decide +kernel
theorem d13_32 : decode prog_8_method_6_code 32 = .ok (.getfield 24, 3) := by decide +kernel
theorem d13_35 : decode prog_8_method_6_code 35 = .ok (.invokevirtual 28, 3) := by decide +kernel
theorem d13_38 : decode prog_8_method_6_code 38 = .ok (.ifCond .eq 7, 3) := by decide +kernel
theorem d13_41 : decode prog_8_method_6_code 41 = .ok (.iconst 1, 1) := by decide +kernel
theorem d13_42 : decode prog_8_method_6_code 42 = .ok (.goto 4, 3) := by decide +kernel
theorem d13_45 : decode prog_8_method_6_code 45 = .ok (.iconst 0, 1) := by decide +kernel
theorem d13_46 : decode prog_8_method_6_code 46 = .ok (.ireturn, 1) := by decide +kernel
theorem ef_13 (m : MethodId) (x0 : Addr) (x1 : Addr) : entryFrame m #[(.ref x0), (.ref x1)] 2 = mkF m 0 #[.val (.ref x0), .val (.ref x1)] [] := by first | (simp [entryFrame, mkF, argsToLocals, Value.category]; done) | rfl
set_option maxRecDepth 65536 in
set_option maxHeartbeats 40000000 in
theorem rm13t (l : Launch) (Z : State) (a0 : Array Value) (hw : ∀ d ∈ tables_1, d.before a0 Z = true) (ws : List Jvm.Cond) (a1 : Addr) (a2 : Addr) (cz : Int32) (s1 : Addr) (t1 : Addr) (k1 : ClassId) (ln1 : Int32) (cs1 : List Int32) (s2 : Addr) (t2 : Addr) (k2 : ClassId) (ln2 : Int32) (cs2 : List Int32) (s3 : Addr) (t3 : Addr) (k3 : ClassId) (ln3 : Int32) (cs3 : List Int32) (s4 : Addr) (t4 : Addr) (k4 : ClassId) (ln4 : Int32) (cs4 : List Int32) (h0 : Heap) (n0 : Nat) (Z0 : n0 ≤ h0.size) (E_a1 : Exa Z h0 a1 "com/example/vertumnus/vertumnus/TableName") (E_a2 : Exa Z h0 a2 "com/example/vertumnus/vertumnus/TableName") (ST_COMPACT_STRINGS : Sta Z h0 "java/lang/String" "COMPACT_STRINGS" "Z" (.int cz)) (F_schema_a1 : Fld Z h0 a1 "com/example/vertumnus/vertumnus/TableName" "schema" "Ljava/lang/String;" (.ref s1)) (E_s1 : Exa Z h0 s1 "java/lang/String") (F_value_s1 : Fld Z h0 s1 "java/lang/String" "value" "[B" (.ref t1)) (F_coder_s1 : Fld Z h0 s1 "java/lang/String" "coder" "B" (.int (0 : Int32))) (V_t1 : Arv Z h0 t1 k1 .byte ln1 ((cs1.map fun c => c.toInt8.toInt32).map Value.int) (.int (0 : Int32))) (F_name_a1 : Fld Z h0 a1 "com/example/vertumnus/vertumnus/TableName" "name" "Ljava/lang/String;" (.ref s2)) (E_s2 : Exa Z h0 s2 "java/lang/String") (F_value_s2 : Fld Z h0 s2 "java/lang/String" "value" "[B" (.ref t2)) (F_coder_s2 : Fld Z h0 s2 "java/lang/String" "coder" "B" (.int (0 : Int32))) (V_t2 : Arv Z h0 t2 k2 .byte ln2 ((cs2.map fun c => c.toInt8.toInt32).map Value.int) (.int (0 : Int32))) (F_schema_a2 : Fld Z h0 a2 "com/example/vertumnus/vertumnus/TableName" "schema" "Ljava/lang/String;" (.ref s3)) (E_s3 : Exa Z h0 s3 "java/lang/String") (F_value_s3 : Fld Z h0 s3 "java/lang/String" "value" "[B" (.ref t3)) (F_coder_s3 : Fld Z h0 s3 "java/lang/String" "coder" "B" (.int (0 : Int32))) (V_t3 : Arv Z h0 t3 k3 .byte ln3 ((cs3.map fun c => c.toInt8.toInt32).map Value.int) (.int (0 : Int32))) (F_name_a2 : Fld Z h0 a2 "com/example/vertumnus/vertumnus/TableName" "name" "Ljava/lang/String;" (.ref s4)) (E_s4 : Exa Z h0 s4 "java/lang/String") (F_value_s4 : Fld Z h0 s4 "java/lang/String" "value" "[B" (.ref t4)) (F_coder_s4 : Fld Z h0 s4 "java/lang/String" "coder" "B" (.int (0 : Int32))) (V_t4 : Arv Z h0 t4 k4 .byte ln4 ((cs4.map fun c => c.toInt8.toInt32).map Value.int) (.int (0 : Int32))) (hCS : ¬ (cz = (0 : Int32))) (hl1 : ln1 = Int32.ofNat cs1.length ∧ cs1.length ≤ 4000) (hc1 : ∀ c ∈ cs1, ¬ c < 0 ∧ ¬ (255 : Int32) < c) (hl2 : ln2 = Int32.ofNat cs2.length ∧ cs2.length ≤ 4000) (hc2 : ∀ c ∈ cs2, ¬ c < 0 ∧ ¬ (255 : Int32) < c) (hl3 : ln3 = Int32.ofNat cs3.length ∧ cs3.length ≤ 4000) (hc3 : ∀ c ∈ cs3, ¬ c < 0 ∧ ¬ (255 : Int32) < c) (hl4 : ln4 = Int32.ofNat cs4.length ∧ cs4.length ≤ 4000) (hc4 : ∀ c ∈ cs4, ¬ c < 0 ∧ ¬ (255 : Int32) < c) :
    MetFree l (⟨"com/example/vertumnus/vertumnus/TableName", "equals", "(Ljava/lang/Object;)Z"⟩ : MethodName) (head1 (Jvm.Cond.code (⟨"com/example/vertumnus/vertumnus/TableName", "equals", "(Ljava/lang/Object;)Z"⟩ : MethodName) prog_8_method_6_code 2 (some .boolean) :: ws) ({ frames := 2, cells := 0, slots := 0, locals := 28 } : Room)) (fun a U => a = #[(.ref a1), (.ref a2)] ∧ Z.Warmed39 U.vm ∧ U.heap = h0) (fun _ _ _ _ _ => True) (fun _ U o U' => ∃ v L, o = .returned v ∧ Qrm13t Z a1 a2 cz s1 t1 k1 ln1 cs1 s2 t2 k2 ln2 cs2 s3 t3 k3 ln3 cs3 s4 t4 k4 ln4 cs4 h0 n0 v U'.heap L ∧ FrameEnd U o U' L ({ frames := 2, cells := 0, slots := 0, locals := 28 } : Room).cells ({ frames := 2, cells := 0, slots := 0, locals := 28 } : Room).slots) := by
  refine MetFree.of_bodySF (plainFor_of_name pn_3) hisR ?_
  intro p e s m args below meth c s₁ Bd hml0 hP hK
  obtain ⟨rfl, hZ, hh⟩ := hP
  have hx := Bd.exec
  have hby := Bd.bytes
  have hml : c.maxLocals = 2 := hml0
  have hown : s.vm.findClass "com/example/vertumnus/vertumnus/TableName" = some m.cls := findClass_of_methodNamed Bd.named
  have hnm := (name_of_methodNamed Bd.named Bd.method).1
  have X0 : Stand p l e ({ frames := 2, cells := 0, slots := 0, locals := 28 } : Room) s m #[(.ref a1), (.ref a2)] below meth c s₁ [] 0 0 := Stand.of_body Bd
  have e0 : s₁.heap = h0 := by rw [← hh, Bd.state]; rfl
  have N0 := Fr.nil n0
  have pre0 : ∀ t, Steps p.tables e below (s₁.setTop (mkF m 0 #[.val (.ref a1), .val (.ref a2)] [])) t → Steps p.tables e below (s₁.setTop (entryFrame m #[(.ref a1), (.ref a2)] 2)) t := fun t k => castTop (ef_13 m a1 a2) k
  have heq : ∀ d ∈ StrChars.Road.wordsEq, d.before a0 Z = true := fun d hd => hw d ((by decide +kernel : ∀ d ∈ StrChars.Road.wordsEq, d ∈ tables_1) d hd)
  have pre1 : ∀ t, Steps p.tables e below (s₁.setTop (mkF m 1 #[.val (.ref a1), .val (.ref a2)] [(.ref a2)])) t → Steps p.tables e below (s₁.setTop (entryFrame m #[(.ref a1), (.ref a2)] 2)) t := by
    intro t kt
    refine pre0 t ?_
    show Steps p.tables e below (s₁.setTop (mkF m 0 #[.val (.ref a1), .val (.ref a2)] [])) _
    refine XS.aloadN X0.here hx rfl (hb hby d13_0) rfl rfl ?_
    exact kt
  obtain ⟨T2, X2, e2, st2⟩ := instY X0 hx hZ hown (hw _ (List.mem_of_getElem? (i := 69) rfl)) e0 (Ins.self E_a2) (g := (mkF m 1 #[.val (.ref a1), .val (.ref a2)] [(.ref a2)])) rfl rfl (hb hby d13_1)
  have pre2 : ∀ t, Steps p.tables e below (T2.setTop (mkF m 4 #[.val (.ref a1), .val (.ref a2)] [(.int (1 : Int32))])) t → Steps p.tables e below (s₁.setTop (entryFrame m #[(.ref a1), (.ref a2)] 2)) t := fun t kt => pre1 t (st2 _ kt)
  have pre3 : ∀ t, Steps p.tables e below (T2.setTop (mkF m 8 #[.val (.ref a1), .val (.ref a2)] [(.ref a1)])) t → Steps p.tables e below (s₁.setTop (entryFrame m #[(.ref a1), (.ref a2)] 2)) t := by
    intro t kt
    refine pre2 t ?_
    show Steps p.tables e below (T2.setTop (mkF m 4 #[.val (.ref a1), .val (.ref a2)] [(.int (1 : Int32))])) _
    refine XS.ifNo X2.here hx rfl (hb hby d13_4) rfl ((if0 _ _).trans (feq (by decide)).1) ?_
    show Steps p.tables e below (T2.setTop (mkF m 7 #[.val (.ref a1), .val (.ref a2)] [])) _
    refine XS.aloadN X2.here hx rfl (hb hby d13_7) rfl rfl ?_
    exact kt
  obtain ⟨T4, X4, e4, st4⟩ := getF X2 hx hZ hown (host := "") (Or.inl (hw _ (List.mem_of_getElem? (i := 56) rfl))) Via.refl e2 F_schema_a1 (g := (mkF m 8 #[.val (.ref a1), .val (.ref a2)] [(.ref a1)])) rfl rfl (hb hby d13_8)
  have pre4 : ∀ t, Steps p.tables e below (T4.setTop (mkF m 11 #[.val (.ref a1), .val (.ref a2)] [(.ref s1)])) t → Steps p.tables e below (s₁.setTop (entryFrame m #[(.ref a1), (.ref a2)] 2)) t := fun t kt => pre3 t (st4 _ kt)
  have pre5 : ∀ t, Steps p.tables e below (T4.setTop (mkF m 12 #[.val (.ref a1), .val (.ref a2)] [(.ref a2), (.ref s1)])) t → Steps p.tables e below (s₁.setTop (entryFrame m #[(.ref a1), (.ref a2)] 2)) t := by
    intro t kt
    refine pre4 t ?_
    show Steps p.tables e below (T4.setTop (mkF m 11 #[.val (.ref a1), .val (.ref a2)] [(.ref s1)])) _
    refine XS.aloadN X4.here hx rfl (hb hby d13_11) rfl rfl ?_
    exact kt
  obtain ⟨T6, X6, e6, st6⟩ := castY X4 hx hZ hown (hw _ (List.mem_of_getElem? (i := 69) rfl)) e4 (Ins.self E_a2) (g := (mkF m 12 #[.val (.ref a1), .val (.ref a2)] [(.ref a2), (.ref s1)])) rfl rfl (hb hby d13_12)
  have pre6 : ∀ t, Steps p.tables e below (T6.setTop (mkF m 15 #[.val (.ref a1), .val (.ref a2)] [(.ref a2), (.ref s1)])) t → Steps p.tables e below (s₁.setTop (entryFrame m #[(.ref a1), (.ref a2)] 2)) t := fun t kt => pre5 t (st6 _ kt)
  obtain ⟨T7, X7, e7, st7⟩ := getF X6 hx hZ hown (host := "") (Or.inl (hw _ (List.mem_of_getElem? (i := 56) rfl))) Via.refl e6 F_schema_a2 (g := (mkF m 15 #[.val (.ref a1), .val (.ref a2)] [(.ref a2), (.ref s1)])) rfl rfl (hb hby d13_15)
  have pre7 : ∀ t, Steps p.tables e below (T7.setTop (mkF m 18 #[.val (.ref a1), .val (.ref a2)] [(.ref s3), (.ref s1)])) t → Steps p.tables e below (s₁.setTop (entryFrame m #[(.ref a1), (.ref a2)] 2)) t := fun t kt => pre6 t (st7 _ kt)
  obtain ⟨cq8, kq8, q8a, q8b, q8c⟩ := isOf hZ e7 E_s1
  obtain ⟨_, _, ⟨T8, L8, k8, n8⟩, -, X8, ⟨Lc8, hQ8, l8, y8, z8⟩, st8⟩ := X7.virtualBack hx (y := (⟨"java/lang/String", "equals", "(Ljava/lang/Object;)Z"⟩ : MethodName)) (z := (⟨"java/lang/String", "equals", "(Ljava/lang/Object;)Z"⟩ : MethodName)) hown (mvT hZ (hw _ (List.mem_of_getElem? (i := 71) rfl))) (mvT hZ (hw _ (List.mem_of_getElem? (i := 72) rfl))) (notFace_of_selects (args := #[]) (mvT hZ (hw _ (List.mem_of_getElem? (i := 74) rfl)))) (mvT hZ (hw _ (List.mem_of_getElem? (i := 74) rfl))) (mvT hZ (hw _ (List.mem_of_getElem? (i := 73) rfl))) (by decide) (StrChars.Road.eqW (W := 0) hZ heq (kI := 4) (hw _ (List.mem_of_getElem? (i := 12) rfl)) E_s1 F_value_s1 F_coder_s1 V_t1 (by rw [hl1.1]; exact StrChars.Road.codOf rfl (fun c hc => (hc1 c hc).2)) (fun c hc => own_wide (hc1 c hc)) hl1.2 E_s3 F_value_s3 F_coder_s3 V_t3 (by rw [hl3.1]; exact StrChars.Road.codOf rfl (fun c hc => (hc3 c hc).2)) (fun c hc => own_wide (hc3 c hc)) hl3.2 ST_COMPACT_STRINGS hCS (by decide) (by decide)) q8a q8c (g := (mkF m 18 #[.val (.ref a1), .val (.ref a2)] [(.ref s3), (.ref s1)])) rfl (by rw [hml]; rfl) (Steps.refl _) (argsL := [(.ref s3)]) (rest := []) (lenOf pd_5 rfl) rfl (by show 2 * 0 + _ ≤ _; exact Nat.le_of_eq rfl) (hb hby d13_18) (fun _ _ => ⟨rfl, e7, (by decide : 0 + 0 ≤ _), (by decide : 0 + 0 ≤ _)⟩)
  dsimp only [Pt.U, Pt.locs, Pt.cells, Pt.slots] at X8 l8 y8 z8 st8 hQ8
  subst l8 y8 z8
  obtain ⟨hv8, rfl, e8⟩ := hQ8
  have N8 := Fr.app N0 (Fr.nil n0)
  rcases hv8 with ⟨rfl, hq8⟩ | ⟨rfl, hq8⟩
  · skip
    have pre8 : ∀ t, Steps p.tables e below (T8.setTop (mkF m 21 #[.val (.ref a1), .val (.ref a2)] [(.int (1 : Int32))])) t → Steps p.tables e below (s₁.setTop (entryFrame m #[(.ref a1), (.ref a2)] 2)) t := fun t kt => pre7 t (st8.trans kt)
    have pre9 : ∀ t, Steps p.tables e below (T8.setTop (mkF m 25 #[.val (.ref a1), .val (.ref a2)] [(.ref a1)])) t → Steps p.tables e below (s₁.setTop (entryFrame m #[(.ref a1), (.ref a2)] 2)) t := by
      intro t kt
      refine pre8 t ?_
      show Steps p.tables e below (T8.setTop (mkF m 21 #[.val (.ref a1), .val (.ref a2)] [(.int (1 : Int32))])) _
      refine XS.ifNo X8.here hx rfl (hb hby d13_21) rfl ((if0 _ _).trans (feq (by decide)).1) ?_
      show Steps p.tables e below (T8.setTop (mkF m 24 #[.val (.ref a1), .val (.ref a2)] [])) _
      refine XS.aloadN X8.here hx rfl (hb hby d13_24) rfl rfl ?_
      exact kt
    obtain ⟨T10, X10, e10, st10⟩ := getF X8 hx hZ hown (host := "") (Or.inl (hw _ (List.mem_of_getElem? (i := 59) rfl))) Via.refl e8 F_name_a1 (g := (mkF m 25 #[.val (.ref a1), .val (.ref a2)] [(.ref a1)])) rfl rfl (hb hby d13_25)
    have pre10 : ∀ t, Steps p.tables e below (T10.setTop (mkF m 28 #[.val (.ref a1), .val (.ref a2)] [(.ref s2)])) t → Steps p.tables e below (s₁.setTop (entryFrame m #[(.ref a1), (.ref a2)] 2)) t := fun t kt => pre9 t (st10 _ kt)
    have pre11 : ∀ t, Steps p.tables e below (T10.setTop (mkF m 29 #[.val (.ref a1), .val (.ref a2)] [(.ref a2), (.ref s2)])) t → Steps p.tables e below (s₁.setTop (entryFrame m #[(.ref a1), (.ref a2)] 2)) t := by
      intro t kt
      refine pre10 t ?_
      show Steps p.tables e below (T10.setTop (mkF m 28 #[.val (.ref a1), .val (.ref a2)] [(.ref s2)])) _
      refine XS.aloadN X10.here hx rfl (hb hby d13_28) rfl rfl ?_
      exact kt
    obtain ⟨T12, X12, e12, st12⟩ := castY X10 hx hZ hown (hw _ (List.mem_of_getElem? (i := 69) rfl)) e10 (Ins.self E_a2) (g := (mkF m 29 #[.val (.ref a1), .val (.ref a2)] [(.ref a2), (.ref s2)])) rfl rfl (hb hby d13_29)
    have pre12 : ∀ t, Steps p.tables e below (T12.setTop (mkF m 32 #[.val (.ref a1), .val (.ref a2)] [(.ref a2), (.ref s2)])) t → Steps p.tables e below (s₁.setTop (entryFrame m #[(.ref a1), (.ref a2)] 2)) t := fun t kt => pre11 t (st12 _ kt)
    obtain ⟨T13, X13, e13, st13⟩ := getF X12 hx hZ hown (host := "") (Or.inl (hw _ (List.mem_of_getElem? (i := 59) rfl))) Via.refl e12 F_name_a2 (g := (mkF m 32 #[.val (.ref a1), .val (.ref a2)] [(.ref a2), (.ref s2)])) rfl rfl (hb hby d13_32)
    have pre13 : ∀ t, Steps p.tables e below (T13.setTop (mkF m 35 #[.val (.ref a1), .val (.ref a2)] [(.ref s4), (.ref s2)])) t → Steps p.tables e below (s₁.setTop (entryFrame m #[(.ref a1), (.ref a2)] 2)) t := fun t kt => pre12 t (st13 _ kt)
    obtain ⟨cq14, kq14, q14a, q14b, q14c⟩ := isOf hZ e13 E_s2
    obtain ⟨_, _, ⟨T14, L14, k14, n14⟩, -, X14, ⟨Lc14, hQ14, l14, y14, z14⟩, st14⟩ := X13.virtualBack hx (y := (⟨"java/lang/String", "equals", "(Ljava/lang/Object;)Z"⟩ : MethodName)) (z := (⟨"java/lang/String", "equals", "(Ljava/lang/Object;)Z"⟩ : MethodName)) hown (mvT hZ (hw _ (List.mem_of_getElem? (i := 71) rfl))) (mvT hZ (hw _ (List.mem_of_getElem? (i := 72) rfl))) (notFace_of_selects (args := #[]) (mvT hZ (hw _ (List.mem_of_getElem? (i := 74) rfl)))) (mvT hZ (hw _ (List.mem_of_getElem? (i := 74) rfl))) (mvT hZ (hw _ (List.mem_of_getElem? (i := 73) rfl))) (by decide) (StrChars.Road.eqW (W := 0) hZ heq (kI := 4) (hw _ (List.mem_of_getElem? (i := 12) rfl)) E_s2 F_value_s2 F_coder_s2 V_t2 (by rw [hl2.1]; exact StrChars.Road.codOf rfl (fun c hc => (hc2 c hc).2)) (fun c hc => own_wide (hc2 c hc)) hl2.2 E_s4 F_value_s4 F_coder_s4 V_t4 (by rw [hl4.1]; exact StrChars.Road.codOf rfl (fun c hc => (hc4 c hc).2)) (fun c hc => own_wide (hc4 c hc)) hl4.2 ST_COMPACT_STRINGS hCS (by decide) (by decide)) q14a q14c (g := (mkF m 35 #[.val (.ref a1), .val (.ref a2)] [(.ref s4), (.ref s2)])) rfl (by rw [hml]; rfl) (Steps.refl _) (argsL := [(.ref s4)]) (rest := []) (lenOf pd_5 rfl) rfl (by show 2 * 0 + _ ≤ _; exact Nat.le_of_eq rfl) (hb hby d13_35) (fun _ _ => ⟨rfl, e13, (by decide : 0 + 0 ≤ _), (by decide : 0 + 0 ≤ _)⟩)
    dsimp only [Pt.U, Pt.locs, Pt.cells, Pt.slots] at X14 l14 y14 z14 st14 hQ14
    subst l14 y14 z14
    obtain ⟨hv14, rfl, e14⟩ := hQ14
    have N14 := Fr.app N8 (Fr.nil n0)
    rcases hv14 with ⟨rfl, hq14⟩ | ⟨rfl, hq14⟩
    · skip
      have pre14 : ∀ t, Steps p.tables e below (T14.setTop (mkF m 38 #[.val (.ref a1), .val (.ref a2)] [(.int (1 : Int32))])) t → Steps p.tables e below (s₁.setTop (entryFrame m #[(.ref a1), (.ref a2)] 2)) t := fun t kt => pre13 t (st14.trans kt)
      have pre15 : ∀ t, Steps p.tables e below (T14.setTop (mkF m 46 #[.val (.ref a1), .val (.ref a2)] [(.int (1 : Int32))])) t → Steps p.tables e below (s₁.setTop (entryFrame m #[(.ref a1), (.ref a2)] 2)) t := by
        intro t kt
        refine pre14 t ?_
        show Steps p.tables e below (T14.setTop (mkF m 38 #[.val (.ref a1), .val (.ref a2)] [(.int (1 : Int32))])) _
        refine XS.ifNo X14.here hx rfl (hb hby d13_38) rfl ((if0 _ _).trans (feq (by decide)).1) ?_
        show Steps p.tables e below (T14.setTop (mkF m 41 #[.val (.ref a1), .val (.ref a2)] [])) _
        refine XS.iconst X14.here hx rfl (hb hby d13_41) ?_
        show Steps p.tables e below (T14.setTop (mkF m 42 #[.val (.ref a1), .val (.ref a2)] [(.int (1 : Int32))])) _
        refine XS.goto X14.here hx rfl (pc0 := 42) (pc' := 46) rfl (hb hby d13_42) (by decide) (by decide) ?_
        exact kt
      have hres : (1 : Int32) = (own_eq2 cs1 cs3 cs2 cs4) := by simp [own_eq2, hq8, hq14]
      obtain ⟨fs, hr, hrun, hended, hW, hsame⟩ := X14.leave (v := some (.int (1 : Int32))) (fun h => by rw [Bd.returns] at h; cases h)
      refine ⟨_, _, pre15 _ ?_, hrun, hended, _, _, rfl, ?_, ⟨_, rfl⟩, hW, hsame.mono (by decide) (by decide)⟩
      · show Steps p.tables e below (T14.setTop (mkF m 46 #[.val (.ref a1), .val (.ref a2)] [(.int (1 : Int32))])) _
        exact retN X14 hx (t := .boolean) Bd.returns (by simp) (hb hby d13_46) hr
      · show Qrm13t Z a1 a2 cz s1 t1 k1 ln1 cs1 s2 t2 k2 ln2 cs2 s3 t3 k3 ln3 cs3 s4 t4 k4 ln4 cs4 h0 n0 _ T14.heap _
        rw [e14]
        exact ⟨congrArg some (congrArg Value.int hres), N14, rfl⟩
    · skip
      have pre14 : ∀ t, Steps p.tables e below (T14.setTop (mkF m 38 #[.val (.ref a1), .val (.ref a2)] [(.int (0 : Int32))])) t → Steps p.tables e below (s₁.setTop (entryFrame m #[(.ref a1), (.ref a2)] 2)) t := fun t kt => pre13 t (st14.trans kt)
      have pre16 : ∀ t, Steps p.tables e below (T14.setTop (mkF m 46 #[.val (.ref a1), .val (.ref a2)] [(.int (0 : Int32))])) t → Steps p.tables e below (s₁.setTop (entryFrame m #[(.ref a1), (.ref a2)] 2)) t := by
        intro t kt
        refine pre14 t ?_
        show Steps p.tables e below (T14.setTop (mkF m 38 #[.val (.ref a1), .val (.ref a2)] [(.int (0 : Int32))])) _
        refine XS.ifYes X14.here hx rfl (pc0 := 38) (pc' := 45) rfl (hb hby d13_38) rfl ((if0 _ _).trans (teq (by decide)).1) (by decide) (by decide) ?_
        show Steps p.tables e below (T14.setTop (mkF m 45 #[.val (.ref a1), .val (.ref a2)] [])) _
        refine XS.iconst X14.here hx rfl (hb hby d13_45) ?_
        exact kt
      have hres : (0 : Int32) = (own_eq2 cs1 cs3 cs2 cs4) := by simp [own_eq2, hq8, hq14]
      obtain ⟨fs, hr, hrun, hended, hW, hsame⟩ := X14.leave (v := some (.int (0 : Int32))) (fun h => by rw [Bd.returns] at h; cases h)
      refine ⟨_, _, pre16 _ ?_, hrun, hended, _, _, rfl, ?_, ⟨_, rfl⟩, hW, hsame.mono (by decide) (by decide)⟩
      · show Steps p.tables e below (T14.setTop (mkF m 46 #[.val (.ref a1), .val (.ref a2)] [(.int (0 : Int32))])) _
        exact retN X14 hx (t := .boolean) Bd.returns (by simp) (hb hby d13_46) hr
      · show Qrm13t Z a1 a2 cz s1 t1 k1 ln1 cs1 s2 t2 k2 ln2 cs2 s3 t3 k3 ln3 cs3 s4 t4 k4 ln4 cs4 h0 n0 _ T14.heap _
        rw [e14]
        exact ⟨congrArg some (congrArg Value.int hres), N14, rfl⟩
  · skip
    have pre8 : ∀ t, Steps p.tables e below (T8.setTop (mkF m 21 #[.val (.ref a1), .val (.ref a2)] [(.int (0 : Int32))])) t → Steps p.tables e below (s₁.setTop (entryFrame m #[(.ref a1), (.ref a2)] 2)) t := fun t kt => pre7 t (st8.trans kt)
    have pre17 : ∀ t, Steps p.tables e below (T8.setTop (mkF m 46 #[.val (.ref a1), .val (.ref a2)] [(.int (0 : Int32))])) t → Steps p.tables e below (s₁.setTop (entryFrame m #[(.ref a1), (.ref a2)] 2)) t := by
      intro t kt
      refine pre8 t ?_
      show Steps p.tables e below (T8.setTop (mkF m 21 #[.val (.ref a1), .val (.ref a2)] [(.int (0 : Int32))])) _
      refine XS.ifYes X8.here hx rfl (pc0 := 21) (pc' := 45) rfl (hb hby d13_21) rfl ((if0 _ _).trans (teq (by decide)).1) (by decide) (by decide) ?_
      show Steps p.tables e below (T8.setTop (mkF m 45 #[.val (.ref a1), .val (.ref a2)] [])) _
      refine XS.iconst X8.here hx rfl (hb hby d13_45) ?_
      exact kt
    have hres : (0 : Int32) = (own_eq2 cs1 cs3 cs2 cs4) := by simp [own_eq2, hq8]
    obtain ⟨fs, hr, hrun, hended, hW, hsame⟩ := X8.leave (v := some (.int (0 : Int32))) (fun h => by rw [Bd.returns] at h; cases h)
    refine ⟨_, _, pre17 _ ?_, hrun, hended, _, _, rfl, ?_, ⟨_, rfl⟩, hW, hsame.mono (by decide) (by decide)⟩
    · show Steps p.tables e below (T8.setTop (mkF m 46 #[.val (.ref a1), .val (.ref a2)] [(.int (0 : Int32))])) _
      exact retN X8 hx (t := .boolean) Bd.returns (by simp) (hb hby d13_46) hr
    · show Qrm13t Z a1 a2 cz s1 t1 k1 ln1 cs1 s2 t2 k2 ln2 cs2 s3 t3 k3 ln3 cs3 s4 t4 k4 ln4 cs4 h0 n0 _ T8.heap _
      rw [e8]
      exact ⟨congrArg some (congrArg Value.int hres), N8, rfl⟩
def Qrm13s (Z : State) (a1 : Addr) (a2 : Addr) (h0 : Heap) (n0 : Nat) (v : Option Value) (h : Heap) (L : List Loc) : Prop := v = some (.int (0 : Int32)) ∧ Fr n0 L ∧ h = h0

set_option maxRecDepth 65536 in
set_option maxHeartbeats 40000000 in
theorem rm13s (l : Launch) (Z : State) (a0 : Array Value) (hw : ∀ d ∈ tables_1, d.before a0 Z = true) (ws : List Jvm.Cond) (a1 : Addr) (a2 : Addr) (h0 : Heap) (n0 : Nat) (Z0 : n0 ≤ h0.size) (E_a2 : Exa Z h0 a2 "java/lang/String") :
    MetFree l (⟨"com/example/vertumnus/vertumnus/TableName", "equals", "(Ljava/lang/Object;)Z"⟩ : MethodName) (head1 (Jvm.Cond.code (⟨"com/example/vertumnus/vertumnus/TableName", "equals", "(Ljava/lang/Object;)Z"⟩ : MethodName) prog_8_method_6_code 2 (some .boolean) :: ws) ({ frames := 0, cells := 0, slots := 0, locals := 0 } : Room)) (fun a U => a = #[(.ref a1), (.ref a2)] ∧ Z.Warmed39 U.vm ∧ U.heap = h0) (fun _ _ _ _ _ => True) (fun _ U o U' => ∃ v L, o = .returned v ∧ Qrm13s Z a1 a2 h0 n0 v U'.heap L ∧ FrameEnd U o U' L ({ frames := 0, cells := 0, slots := 0, locals := 0 } : Room).cells ({ frames := 0, cells := 0, slots := 0, locals := 0 } : Room).slots) := by
  refine MetFree.of_bodySF (plainFor_of_name pn_3) hisR ?_
  intro p e s m args below meth c s₁ Bd hml0 hP hK
  obtain ⟨rfl, hZ, hh⟩ := hP
  have hx := Bd.exec
  have hby := Bd.bytes
  have hml : c.maxLocals = 2 := hml0
  have hown : s.vm.findClass "com/example/vertumnus/vertumnus/TableName" = some m.cls := findClass_of_methodNamed Bd.named
  have hnm := (name_of_methodNamed Bd.named Bd.method).1
  have X0 : Stand p l e ({ frames := 0, cells := 0, slots := 0, locals := 0 } : Room) s m #[(.ref a1), (.ref a2)] below meth c s₁ [] 0 0 := Stand.of_body Bd
  have e0 : s₁.heap = h0 := by rw [← hh, Bd.state]; rfl
  have N0 := Fr.nil n0
  have pre0 : ∀ t, Steps p.tables e below (s₁.setTop (mkF m 0 #[.val (.ref a1), .val (.ref a2)] [])) t → Steps p.tables e below (s₁.setTop (entryFrame m #[(.ref a1), (.ref a2)] 2)) t := fun t k => castTop (ef_13 m a1 a2) k
  have pre1 : ∀ t, Steps p.tables e below (s₁.setTop (mkF m 1 #[.val (.ref a1), .val (.ref a2)] [(.ref a2)])) t → Steps p.tables e below (s₁.setTop (entryFrame m #[(.ref a1), (.ref a2)] 2)) t := by
    intro t kt
    refine pre0 t ?_
    show Steps p.tables e below (s₁.setTop (mkF m 0 #[.val (.ref a1), .val (.ref a2)] [])) _
    refine XS.aloadN X0.here hx rfl (hb hby d13_0) rfl rfl ?_
    exact kt
  obtain ⟨T2, X2, e2, st2⟩ := instNo X0 hx hZ hown (hw _ (List.mem_of_getElem? (i := 69) rfl)) e0 E_a2 (own_noTN hw) (g := (mkF m 1 #[.val (.ref a1), .val (.ref a2)] [(.ref a2)])) rfl rfl (hb hby d13_1)
  have pre2 : ∀ t, Steps p.tables e below (T2.setTop (mkF m 4 #[.val (.ref a1), .val (.ref a2)] [(.int (0 : Int32))])) t → Steps p.tables e below (s₁.setTop (entryFrame m #[(.ref a1), (.ref a2)] 2)) t := fun t kt => pre1 t (st2 _ kt)
  have pre3 : ∀ t, Steps p.tables e below (T2.setTop (mkF m 46 #[.val (.ref a1), .val (.ref a2)] [(.int (0 : Int32))])) t → Steps p.tables e below (s₁.setTop (entryFrame m #[(.ref a1), (.ref a2)] 2)) t := by
    intro t kt
    refine pre2 t ?_
    show Steps p.tables e below (T2.setTop (mkF m 4 #[.val (.ref a1), .val (.ref a2)] [(.int (0 : Int32))])) _
    refine XS.ifYes X2.here hx rfl (pc0 := 4) (pc' := 45) rfl (hb hby d13_4) rfl ((if0 _ _).trans (teq (by decide)).1) (by decide) (by decide) ?_
    show Steps p.tables e below (T2.setTop (mkF m 45 #[.val (.ref a1), .val (.ref a2)] [])) _
    refine XS.iconst X2.here hx rfl (hb hby d13_45) ?_
    exact kt
  obtain ⟨fs, hr, hrun, hended, hW, hsame⟩ := X2.leave (v := some (.int (0 : Int32))) (fun h => by rw [Bd.returns] at h; cases h)
  refine ⟨_, _, pre3 _ ?_, hrun, hended, _, _, rfl, ?_, ⟨_, rfl⟩, hW, hsame.mono (by decide) (by decide)⟩
  · show Steps p.tables e below (T2.setTop (mkF m 46 #[.val (.ref a1), .val (.ref a2)] [(.int (0 : Int32))])) _
    exact retN X2 hx (t := .boolean) Bd.returns (by simp) (hb hby d13_46) hr
  · show Qrm13s Z a1 a2 h0 n0 _ T2.heap _
    rw [e2]
    exact ⟨rfl, N0, rfl⟩
def Qrm13n (Z : State) (a1 : Addr) (h0 : Heap) (n0 : Nat) (v : Option Value) (h : Heap) (L : List Loc) : Prop := v = some (.int (0 : Int32)) ∧ Fr n0 L ∧ h = h0
theorem ef_13n (m : MethodId) (x0 : Addr) : entryFrame m #[(.ref x0), .null] 2 = mkF m 0 #[.val (.ref x0), .val .null] [] := by first | (simp [entryFrame, mkF, argsToLocals, Value.category]; done) | rfl
set_option maxRecDepth 65536 in
set_option maxHeartbeats 40000000 in
theorem rm13n (l : Launch) (Z : State) (a0 : Array Value) (hw : ∀ d ∈ tables_1, d.before a0 Z = true) (ws : List Jvm.Cond) (a1 : Addr) (h0 : Heap) (n0 : Nat) (Z0 : n0 ≤ h0.size) :
    MetFree l (⟨"com/example/vertumnus/vertumnus/TableName", "equals", "(Ljava/lang/Object;)Z"⟩ : MethodName) (head1 (Jvm.Cond.code (⟨"com/example/vertumnus/vertumnus/TableName", "equals", "(Ljava/lang/Object;)Z"⟩ : MethodName) prog_8_method_6_code 2 (some .boolean) :: ws) ({ frames := 0, cells := 0, slots := 0, locals := 0 } : Room)) (fun a U => a = #[(.ref a1), .null] ∧ Z.Warmed39 U.vm ∧ U.heap = h0) (fun _ _ _ _ _ => True) (fun _ U o U' => ∃ v L, o = .returned v ∧ Qrm13n Z a1 h0 n0 v U'.heap L ∧ FrameEnd U o U' L ({ frames := 0, cells := 0, slots := 0, locals := 0 } : Room).cells ({ frames := 0, cells := 0, slots := 0, locals := 0 } : Room).slots) := by
  refine MetFree.of_bodySF (plainFor_of_name pn_3) hisR ?_
  intro p e s m args below meth c s₁ Bd hml0 hP hK
  obtain ⟨rfl, hZ, hh⟩ := hP
  have hx := Bd.exec
  have hby := Bd.bytes
  have hml : c.maxLocals = 2 := hml0
  have hown : s.vm.findClass "com/example/vertumnus/vertumnus/TableName" = some m.cls := findClass_of_methodNamed Bd.named
  have hnm := (name_of_methodNamed Bd.named Bd.method).1
  have X0 : Stand p l e ({ frames := 0, cells := 0, slots := 0, locals := 0 } : Room) s m #[(.ref a1), .null] below meth c s₁ [] 0 0 := Stand.of_body Bd
  have e0 : s₁.heap = h0 := by rw [← hh, Bd.state]; rfl
  have N0 := Fr.nil n0
  have pre0 : ∀ t, Steps p.tables e below (s₁.setTop (mkF m 0 #[.val (.ref a1), .val .null] [])) t → Steps p.tables e below (s₁.setTop (entryFrame m #[(.ref a1), .null] 2)) t := fun t k => castTop (ef_13n m a1) k
  have pre1 : ∀ t, Steps p.tables e below (s₁.setTop (mkF m 1 #[.val (.ref a1), .val .null] [.null])) t → Steps p.tables e below (s₁.setTop (entryFrame m #[(.ref a1), .null] 2)) t := by
    intro t kt
    refine pre0 t ?_
    show Steps p.tables e below (s₁.setTop (mkF m 0 #[.val (.ref a1), .val .null] [])) _
    refine XS.aloadN X0.here hx rfl (hb hby d13_0) rfl rfl ?_
    exact kt
  have pre2 : ∀ t, Steps p.tables e below (s₁.setTop (mkF m 4 #[.val (.ref a1), .val .null] [(.int (0 : Int32))])) t → Steps p.tables e below (s₁.setTop (entryFrame m #[(.ref a1), .null] 2)) t := fun t kt => pre1 t (X0.instanceofNull hx (g := (mkF m 1 #[.val (.ref a1), .val .null] [.null])) rfl rfl (hb hby d13_1) _ kt)
  have pre3 : ∀ t, Steps p.tables e below (s₁.setTop (mkF m 46 #[.val (.ref a1), .val .null] [(.int (0 : Int32))])) t → Steps p.tables e below (s₁.setTop (entryFrame m #[(.ref a1), .null] 2)) t := by
    intro t kt
    refine pre2 t ?_
    show Steps p.tables e below (s₁.setTop (mkF m 4 #[.val (.ref a1), .val .null] [(.int (0 : Int32))])) _
    refine XS.ifYes X0.here hx rfl (pc0 := 4) (pc' := 45) rfl (hb hby d13_4) rfl ((if0 _ _).trans (teq (by decide)).1) (by decide) (by decide) ?_
    show Steps p.tables e below (s₁.setTop (mkF m 45 #[.val (.ref a1), .val .null] [])) _
    refine XS.iconst X0.here hx rfl (hb hby d13_45) ?_
    exact kt
  obtain ⟨fs, hr, hrun, hended, hW, hsame⟩ := X0.leave (v := some (.int (0 : Int32))) (fun h => by rw [Bd.returns] at h; cases h)
  refine ⟨_, _, pre3 _ ?_, hrun, hended, _, _, rfl, ?_, ⟨_, rfl⟩, hW, hsame.mono (by decide) (by decide)⟩
  · show Steps p.tables e below (s₁.setTop (mkF m 46 #[.val (.ref a1), .val .null] [(.int (0 : Int32))])) _
    exact retN X0 hx (t := .boolean) Bd.returns (by simp) (hb hby d13_46) hr
  · show Qrm13n Z a1 h0 n0 _ s₁.heap _
    rw [e0]
    exact ⟨rfl, N0, rfl⟩

theorem own_lenS (x : Int32) : own_f2 x = Int32.ofNat (own_str x).length ∧ (own_str x).length ≤ 4000 := by
  rcases own_len4 x with hx | hx | hx | hx <;> simp [own_str, hx] <;> rfl
theorem own_chS (x : Int32) : ∀ c ∈ own_str x, ¬ c < 0 ∧ ¬ (255 : Int32) < c := by
  intro c hc
  rcases own_len4 x with hx | hx | hx | hx <;> simp [own_str, hx] at hc
  · subst hc; exact own_ch _ _
  · rcases hc with rfl | rfl <;> exact own_ch _ _
  · rcases hc with rfl | rfl | rfl <;> exact own_ch _ _
theorem own_eqc (a b c d : List Int32) : own_eq2 a b c d = own_eq2 b a d c := by
  simp only [own_eq2, eq_comm]
theorem own_eqv (x y z w : Int32) : own_eq2 (own_str x) (own_str y) (own_str z) (own_str w) = if own_same x y = 0 then 0 else if own_same z w = 0 then 0 else 1 := by
  rw [own_same_eq, own_same_eq]
  unfold own_eq2
  by_cases h1 : own_str x = own_str y <;> by_cases h2 : own_str z = own_str w <;> simp [h1, h2]

def Q0 (n0 : Nat) (v : Option Value) (h : Heap) (L : List Loc) : Prop := v = some (.int (1 : Int32)) ∧ Fr n0 L
theorem ef_0 (m : MethodId) (x0 : Int32) (x1 : Int32) (x2 : Int32) (x3 : Int32) (x4 : Int32) : entryFrame m #[(.int x0), (.int x1), (.int x2), (.int x3), (.int x4)] maxLocals = mkF m 0 #[.val (.int x0), .val (.int x1), .val (.int x2), .val (.int x3), .val (.int x4), .unset, .unset, .unset, .unset, .unset, .unset] [] := by first | (simp [entryFrame, mkF, argsToLocals, Value.category, maxLocals]; done) | rfl
set_option maxRecDepth 65536 in
set_option maxHeartbeats 40000000 in
theorem rm0 (l : Launch) (Z : State) (a0 : Array Value) (hw : ∀ d ∈ tables_1, d.before a0 Z = true) (ws : List Jvm.Cond) (p1 : Int32) (p2 : Int32) (p3 : Int32) (p4 : Int32) (p5 : Int32) (cz : Int32) (h0 : Heap) (n0 : Nat) (Z0 : n0 ≤ h0.size) (SCS : Sta Z h0 "java/lang/String" "COMPACT_STRINGS" "Z" (.int cz)) (hCS : ¬ (cz = (0 : Int32))) :
    MetFree l x (head1 (Jvm.Cond.code x code maxLocals ret :: ws) room_1) (fun a U => a = #[(.int p1), (.int p2), (.int p3), (.int p4), (.int p5)] ∧ Z.Warmed39 U.vm ∧ U.heap = h0 ∧ CHv Z EL U.vm h0) (fun _ _ _ _ _ => True) (fun _ U o U' => ∃ v L, o = .returned v ∧ Q0 n0 v U'.heap L ∧ ReturnedEndW U o U' L room_1.cells room_1.slots) := by
  refine MetFree.of_bodySF (plainFor_of_name pn_0) hisR ?_
  intro p e s m args below meth c s₁ Bd hml0 hP hK
  obtain ⟨rfl, hZ, hh, hCH⟩ := hP
  have hS0 : s.Since s.vm 0 := (State.WarmedH.refl s).since 0
  have CR0 : CHr Z EL s.vm h0 s.vm h0 := CHr.refl hCH
  have hx := Bd.exec
  have hby := Bd.bytes
  have hml : c.maxLocals = 11 := hml0
  have hown : s.vm.findClass "com/example/vertumnus/vertumnus/TableNameEqualsPinLaw" = some m.cls := findClass_of_methodNamed Bd.named
  have hnm := (name_of_methodNamed Bd.named Bd.method).1
  have X0 : Stand p l e room_1 s m #[(.int p1), (.int p2), (.int p3), (.int p4), (.int p5)] below meth c s₁ [] 0 0 := Stand.of_body Bd
  have e0 : s₁.heap = h0 := by rw [← hh, Bd.state]; rfl
  have N0 := Fr.nil n0
  have pre0 : ∀ t, Steps p.tables e below (s₁.setTop (mkF m 0 #[.val (.int p1), .val (.int p2), .val (.int p3), .val (.int p4), .val (.int p5), .unset, .unset, .unset, .unset, .unset, .unset] [])) t → Steps p.tables e below (s₁.setTop (entryFrame m #[(.int p1), (.int p2), (.int p3), (.int p4), (.int p5)] maxLocals)) t := fun t k => castTop (ef_0 m p1 p2 p3 p4 p5) k
  have hEL : EW Z a0 EL := own_EW hw
  have wS : ∀ a ∈ Bundle.stringAtoms, a.before a0 Z = true := fun d hd => hw d ((by decide +kernel : ∀ d ∈ Bundle.stringAtoms, d ∈ tables_1) d hd)
  have pre1 : ∀ t, Steps p.tables e below (s₁.setTop (mkF m 4 #[.val (.int p1), .val (.int p2), .val (.int p3), .val (.int p4), .val (.int p5), .unset, .unset, .unset, .unset, .unset, .unset] [(.int (p5 &&& (1 : Int32)))])) t → Steps p.tables e below (s₁.setTop (entryFrame m #[(.int p1), (.int p2), (.int p3), (.int p4), (.int p5)] maxLocals)) t := by
    intro t kt
    refine pre0 t ?_
    show Steps p.tables e below (s₁.setTop (mkF m 0 #[.val (.int p1), .val (.int p2), .val (.int p3), .val (.int p4), .val (.int p5), .unset, .unset, .unset, .unset, .unset, .unset] [])) _
    refine XS.iload X0.here hx rfl (hb hby at_0) rfl ?_
    show Steps p.tables e below (s₁.setTop (mkF m 2 #[.val (.int p1), .val (.int p2), .val (.int p3), .val (.int p4), .val (.int p5), .unset, .unset, .unset, .unset, .unset, .unset] [(.int p5)])) _
    refine XS.iconst X0.here hx rfl (hb hby at_2) ?_
    show Steps p.tables e below (s₁.setTop (mkF m 3 #[.val (.int p1), .val (.int p2), .val (.int p3), .val (.int p4), .val (.int p5), .unset, .unset, .unset, .unset, .unset, .unset] [(.int (1 : Int32)), (.int p5)])) _
    refine XS.iand X0.here hx rfl (hb hby at_3) rfl ?_
    exact kt
  obtain ⟨v2_0, hv2_0, pre2⟩ : ∃ (v2_0 : Int32), v2_0 = (if (p5 &&& (1 : Int32)) = (0 : Int32) then p3 else p1) ∧ ∀ t, Steps p.tables e below (s₁.setTop (mkF m 12 #[.val (.int p1), .val (.int p2), .val (.int p3), .val (.int p4), .val (.int p5), .unset, .unset, .unset, .unset, .unset, .unset] [(.int v2_0)])) t → Steps p.tables e below (s₁.setTop (entryFrame m #[(.int p1), (.int p2), (.int p3), (.int p4), (.int p5)] maxLocals)) t := by
    refine ⟨_, rfl, ?_⟩
    intro t kt
    refine pre1 t ?_
    show Steps p.tables e below (s₁.setTop (mkF m 4 #[.val (.int p1), .val (.int p2), .val (.int p3), .val (.int p4), .val (.int p5), .unset, .unset, .unset, .unset, .unset, .unset] [(.int (p5 &&& (1 : Int32)))])) _
    by_cases hc4 : (p5 &&& (1 : Int32)) = (0 : Int32)
    · (try simp only [if_pos hc4] at kt)
      refine XS.ifYes X0.here hx rfl (pc0 := 4) (pc' := 11) rfl (hb hby at_4) rfl ((if0 _ _).trans (teq hc4).1) (by decide) (by decide) ?_
      show Steps p.tables e below (s₁.setTop (mkF m 11 #[.val (.int p1), .val (.int p2), .val (.int p3), .val (.int p4), .val (.int p5), .unset, .unset, .unset, .unset, .unset, .unset] [])) _
      refine XS.iloadN X0.here hx rfl (hb hby at_11) rfl ?_
      exact kt
    · (try simp only [if_neg hc4] at kt)
      refine XS.ifNo X0.here hx rfl (hb hby at_4) rfl ((if0 _ _).trans (feq hc4).1) ?_
      show Steps p.tables e below (s₁.setTop (mkF m 7 #[.val (.int p1), .val (.int p2), .val (.int p3), .val (.int p4), .val (.int p5), .unset, .unset, .unset, .unset, .unset, .unset] [])) _
      refine XS.iloadN X0.here hx rfl (hb hby at_7) rfl ?_
      show Steps p.tables e below (s₁.setTop (mkF m 8 #[.val (.int p1), .val (.int p2), .val (.int p3), .val (.int p4), .val (.int p5), .unset, .unset, .unset, .unset, .unset, .unset] [(.int p1)])) _
      refine XS.goto X0.here hx rfl (pc0 := 8) (pc' := 12) rfl (hb hby at_8) (by decide) (by decide) ?_
      exact kt
  have pre3 : ∀ t, Steps p.tables e below (s₁.setTop (mkF m 18 #[.val (.int p1), .val (.int p2), .val (.int p3), .val (.int p4), .val (.int p5), .val (.int v2_0), .unset, .unset, .unset, .unset, .unset] [(.int (p5 &&& (2 : Int32)))])) t → Steps p.tables e below (s₁.setTop (entryFrame m #[(.int p1), (.int p2), (.int p3), (.int p4), (.int p5)] maxLocals)) t := by
    intro t kt
    refine pre2 t ?_
    show Steps p.tables e below (s₁.setTop (mkF m 12 #[.val (.int p1), .val (.int p2), .val (.int p3), .val (.int p4), .val (.int p5), .unset, .unset, .unset, .unset, .unset, .unset] [(.int v2_0)])) _
    refine XS.istore X0.here hx rfl (hb hby at_12) rfl (l' := #[.val (.int p1), .val (.int p2), .val (.int p3), .val (.int p4), .val (.int p5), .val (.int v2_0), .unset, .unset, .unset, .unset, .unset]) rfl ?_
    show Steps p.tables e below (s₁.setTop (mkF m 14 #[.val (.int p1), .val (.int p2), .val (.int p3), .val (.int p4), .val (.int p5), .val (.int v2_0), .unset, .unset, .unset, .unset, .unset] [])) _
    refine XS.iload X0.here hx rfl (hb hby at_14) rfl ?_
    show Steps p.tables e below (s₁.setTop (mkF m 16 #[.val (.int p1), .val (.int p2), .val (.int p3), .val (.int p4), .val (.int p5), .val (.int v2_0), .unset, .unset, .unset, .unset, .unset] [(.int p5)])) _
    refine XS.iconst X0.here hx rfl (hb hby at_16) ?_
    show Steps p.tables e below (s₁.setTop (mkF m 17 #[.val (.int p1), .val (.int p2), .val (.int p3), .val (.int p4), .val (.int p5), .val (.int v2_0), .unset, .unset, .unset, .unset, .unset] [(.int (2 : Int32)), (.int p5)])) _
    refine XS.iand X0.here hx rfl (hb hby at_17) rfl ?_
    exact kt
  obtain ⟨v4_0, hv4_0, pre4⟩ : ∃ (v4_0 : Int32), v4_0 = (if (p5 &&& (2 : Int32)) = (0 : Int32) then p4 else p2) ∧ ∀ t, Steps p.tables e below (s₁.setTop (mkF m 26 #[.val (.int p1), .val (.int p2), .val (.int p3), .val (.int p4), .val (.int p5), .val (.int v2_0), .unset, .unset, .unset, .unset, .unset] [(.int v4_0)])) t → Steps p.tables e below (s₁.setTop (entryFrame m #[(.int p1), (.int p2), (.int p3), (.int p4), (.int p5)] maxLocals)) t := by
    refine ⟨_, rfl, ?_⟩
    intro t kt
    refine pre3 t ?_
    show Steps p.tables e below (s₁.setTop (mkF m 18 #[.val (.int p1), .val (.int p2), .val (.int p3), .val (.int p4), .val (.int p5), .val (.int v2_0), .unset, .unset, .unset, .unset, .unset] [(.int (p5 &&& (2 : Int32)))])) _
    by_cases hc18 : (p5 &&& (2 : Int32)) = (0 : Int32)
    · (try simp only [if_pos hc18] at kt)
      refine XS.ifYes X0.here hx rfl (pc0 := 18) (pc' := 25) rfl (hb hby at_18) rfl ((if0 _ _).trans (teq hc18).1) (by decide) (by decide) ?_
      show Steps p.tables e below (s₁.setTop (mkF m 25 #[.val (.int p1), .val (.int p2), .val (.int p3), .val (.int p4), .val (.int p5), .val (.int v2_0), .unset, .unset, .unset, .unset, .unset] [])) _
      refine XS.iloadN X0.here hx rfl (hb hby at_25) rfl ?_
      exact kt
    · (try simp only [if_neg hc18] at kt)
      refine XS.ifNo X0.here hx rfl (hb hby at_18) rfl ((if0 _ _).trans (feq hc18).1) ?_
      show Steps p.tables e below (s₁.setTop (mkF m 21 #[.val (.int p1), .val (.int p2), .val (.int p3), .val (.int p4), .val (.int p5), .val (.int v2_0), .unset, .unset, .unset, .unset, .unset] [])) _
      refine XS.iloadN X0.here hx rfl (hb hby at_21) rfl ?_
      show Steps p.tables e below (s₁.setTop (mkF m 22 #[.val (.int p1), .val (.int p2), .val (.int p3), .val (.int p4), .val (.int p5), .val (.int v2_0), .unset, .unset, .unset, .unset, .unset] [(.int p2)])) _
      refine XS.goto X0.here hx rfl (pc0 := 22) (pc' := 26) rfl (hb hby at_22) (by decide) (by decide) ?_
      exact kt
  have pre5 : ∀ t, Steps p.tables e below (s₁.setTop (mkF m 36 #[.val (.int p1), .val (.int p2), .val (.int p3), .val (.int p4), .val (.int p5), .val (.int v2_0), .val (.int v4_0), .val (.int (((p5.toUInt32 >>> ((2 : Int32) &&& 31).toUInt32).toInt32) &&& (3 : Int32))), .unset, .unset, .unset] [])) t → Steps p.tables e below (s₁.setTop (entryFrame m #[(.int p1), (.int p2), (.int p3), (.int p4), (.int p5)] maxLocals)) t := by
    intro t kt
    refine pre4 t ?_
    show Steps p.tables e below (s₁.setTop (mkF m 26 #[.val (.int p1), .val (.int p2), .val (.int p3), .val (.int p4), .val (.int p5), .val (.int v2_0), .unset, .unset, .unset, .unset, .unset] [(.int v4_0)])) _
    refine XS.istore X0.here hx rfl (hb hby at_26) rfl (l' := #[.val (.int p1), .val (.int p2), .val (.int p3), .val (.int p4), .val (.int p5), .val (.int v2_0), .val (.int v4_0), .unset, .unset, .unset, .unset]) rfl ?_
    show Steps p.tables e below (s₁.setTop (mkF m 28 #[.val (.int p1), .val (.int p2), .val (.int p3), .val (.int p4), .val (.int p5), .val (.int v2_0), .val (.int v4_0), .unset, .unset, .unset, .unset] [])) _
    refine XS.iload X0.here hx rfl (hb hby at_28) rfl ?_
    show Steps p.tables e below (s₁.setTop (mkF m 30 #[.val (.int p1), .val (.int p2), .val (.int p3), .val (.int p4), .val (.int p5), .val (.int v2_0), .val (.int v4_0), .unset, .unset, .unset, .unset] [(.int p5)])) _
    refine XS.iconst X0.here hx rfl (hb hby at_30) ?_
    show Steps p.tables e below (s₁.setTop (mkF m 31 #[.val (.int p1), .val (.int p2), .val (.int p3), .val (.int p4), .val (.int p5), .val (.int v2_0), .val (.int v4_0), .unset, .unset, .unset, .unset] [(.int (2 : Int32)), (.int p5)])) _
    refine XS.iushr X0.here hx rfl (hb hby at_31) rfl ?_
    show Steps p.tables e below (s₁.setTop (mkF m 32 #[.val (.int p1), .val (.int p2), .val (.int p3), .val (.int p4), .val (.int p5), .val (.int v2_0), .val (.int v4_0), .unset, .unset, .unset, .unset] [(.int ((p5.toUInt32 >>> ((2 : Int32) &&& 31).toUInt32).toInt32))])) _
    refine XS.iconst X0.here hx rfl (hb hby at_32) ?_
    show Steps p.tables e below (s₁.setTop (mkF m 33 #[.val (.int p1), .val (.int p2), .val (.int p3), .val (.int p4), .val (.int p5), .val (.int v2_0), .val (.int v4_0), .unset, .unset, .unset, .unset] [(.int (3 : Int32)), (.int ((p5.toUInt32 >>> ((2 : Int32) &&& 31).toUInt32).toInt32))])) _
    refine XS.iand X0.here hx rfl (hb hby at_33) rfl ?_
    show Steps p.tables e below (s₁.setTop (mkF m 34 #[.val (.int p1), .val (.int p2), .val (.int p3), .val (.int p4), .val (.int p5), .val (.int v2_0), .val (.int v4_0), .unset, .unset, .unset, .unset] [(.int (((p5.toUInt32 >>> ((2 : Int32) &&& 31).toUInt32).toInt32) &&& (3 : Int32)))])) _
    refine XS.istore X0.here hx rfl (hb hby at_34) rfl (l' := #[.val (.int p1), .val (.int p2), .val (.int p3), .val (.int p4), .val (.int p5), .val (.int v2_0), .val (.int v4_0), .val (.int (((p5.toUInt32 >>> ((2 : Int32) &&& 31).toUInt32).toInt32) &&& (3 : Int32))), .unset, .unset, .unset]) rfl ?_
    exact kt
  obtain ⟨T6, h6, X6, e6, E6, A6, D6, -, st6⟩ := newO X0 hx hZ hown (hw _ (List.mem_of_getElem? (i := 0) rfl)) (hw _ (List.mem_of_getElem? (i := 1) rfl)) (hw _ (List.mem_of_getElem? (i := 2) rfl)) e0 (g := (mkF m 36 #[.val (.int p1), .val (.int p2), .val (.int p3), .val (.int p4), .val (.int p5), .val (.int v2_0), .val (.int v4_0), .val (.int (((p5.toUInt32 >>> ((2 : Int32) &&& 31).toUInt32).toInt32) &&& (3 : Int32))), .unset, .unset, .unset] [])) rfl (hb hby at_36) (by decide) (by decide)
  obtain ⟨b6, g6⟩ : ∃ z, z = h0.size := ⟨_, rfl⟩
  have g_b6 : n0 ≤ b6 := Nat.le_trans Z0 (Nat.le_of_eq g6.symm)
  have sz_b6 : h0.size ≤ b6 := Nat.le_trans (Keep.refl h0 []).1 (Nat.le_of_eq g6.symm)
  rw [← g6] at A6 D6 st6
  have K6 : Keep h0 h6 [] := (Keep.refl h0 []).ext E6
  have Z6 : n0 ≤ h6.size := Nat.le_trans Z0 E6.1
  have mo6_0 := Nat.le_trans (Nat.zero_le _) E6.1
  have CR6 := CR0.trans (CHr.ext E6 CR0.1)
  have SCS_7 := SCS.ext E6
  have F_schema_b6 : Fld Z h6 b6 "com/example/vertumnus/vertumnus/TableName" "schema" "Ljava/lang/String;" .null := D6 (Or.inr (hw _ (List.mem_of_getElem? (i := 57) rfl))) (ty := (.object "java/lang/String")) (by decide)
  have F_name_b6 : Fld Z h6 b6 "com/example/vertumnus/vertumnus/TableName" "name" "Ljava/lang/String;" .null := D6 (Or.inr (hw _ (List.mem_of_getElem? (i := 60) rfl))) (ty := (.object "java/lang/String")) (by decide)
  have pre6 : ∀ t, Steps p.tables e below (T6.setTop (mkF m 39 #[.val (.int p1), .val (.int p2), .val (.int p3), .val (.int p4), .val (.int p5), .val (.int v2_0), .val (.int v4_0), .val (.int (((p5.toUInt32 >>> ((2 : Int32) &&& 31).toUInt32).toInt32) &&& (3 : Int32))), .unset, .unset, .unset] [(.ref b6)])) t → Steps p.tables e below (s₁.setTop (entryFrame m #[(.int p1), (.int p2), (.int p3), (.int p4), (.int p5)] maxLocals)) t := fun t kt => pre5 t (st6 _ kt)
  have pre8 : ∀ t, Steps p.tables e below (T6.setTop (mkF m 41 #[.val (.int p1), .val (.int p2), .val (.int p3), .val (.int p4), .val (.int p5), .val (.int v2_0), .val (.int v4_0), .val (.int (((p5.toUInt32 >>> ((2 : Int32) &&& 31).toUInt32).toInt32) &&& (3 : Int32))), .unset, .unset, .unset] [(.int p1), (.ref b6), (.ref b6)])) t → Steps p.tables e below (s₁.setTop (entryFrame m #[(.int p1), (.int p2), (.int p3), (.int p4), (.int p5)] maxLocals)) t := by
    intro t kt
    refine pre6 t ?_
    show Steps p.tables e below (T6.setTop (mkF m 39 #[.val (.int p1), .val (.int p2), .val (.int p3), .val (.int p4), .val (.int p5), .val (.int v2_0), .val (.int v4_0), .val (.int (((p5.toUInt32 >>> ((2 : Int32) &&& 31).toUInt32).toInt32) &&& (3 : Int32))), .unset, .unset, .unset] [(.ref b6)])) _
    refine XS.dup X6.here hx rfl (hb hby at_39) rfl rfl ?_
    show Steps p.tables e below (T6.setTop (mkF m 40 #[.val (.int p1), .val (.int p2), .val (.int p3), .val (.int p4), .val (.int p5), .val (.int v2_0), .val (.int v4_0), .val (.int (((p5.toUInt32 >>> ((2 : Int32) &&& 31).toUInt32).toInt32) &&& (3 : Int32))), .unset, .unset, .unset] [(.ref b6), (.ref b6)])) _
    refine XS.iloadN X6.here hx rfl (hb hby at_40) rfl ?_
    exact kt
  obtain ⟨_, _, ⟨T9, L9, k9, n9⟩, -, X9, hSq9, hgq9, ⟨Lc9, hQ9, l9, y9, z9, CQ9⟩, st9⟩ := callSS (s := s.setVm s.vm) X6 hx (y := (⟨"com/example/vertumnus/vertumnus/TableNameEqualsPinLaw", "mk", "(I)Ljava/lang/String;"⟩ : MethodName)) hown (mvT hZ (hw _ (List.mem_of_getElem? (i := 3) rfl))) (mvT hZ (hw _ (List.mem_of_getElem? (i := 4) rfl))) (mvT hZ (hw _ (List.mem_of_getElem? (i := 5) rfl))) (mvT hZ (hw _ (List.mem_of_getElem? (i := 6) rfl))) (by decide) (backOfSH (s := s) (vm0 := s.vm) (W := 2) (rm1 l Z a0 hw [] p1 cz h6 n0 Z6 SCS_7 (hCS)) hZ (hw _ (List.mem_of_getElem? (i := 6) rfl)) (hw _ (List.mem_of_getElem? (i := 5) rfl)) (by decide) (by decide) hEL CR6.1) (g := (mkF m 41 #[.val (.int p1), .val (.int p2), .val (.int p3), .val (.int p4), .val (.int p5), .val (.int v2_0), .val (.int v4_0), .val (.int (((p5.toUInt32 >>> ((2 : Int32) &&& 31).toUInt32).toInt32) &&& (3 : Int32))), .unset, .unset, .unset] [(.int p1), (.ref b6), (.ref b6)])) rfl (by rw [hml]; rfl) (argsL := [(.int p1)]) (rest := [(.ref b6), (.ref b6)]) (lenOf pd_6 rfl) rfl (by show 2 * 0 + _ ≤ _; exact Nat.le_of_eq rfl) (hb hby at_41) (fun _ _ => ⟨rfl, e6, (by decide : 1 + 6 ≤ _), (by decide : 2 + 12 ≤ _)⟩)
  dsimp only [Pt.U, Pt.locs, Pt.cells, Pt.slots] at X9 l9 y9 z9 st9 hQ9
  subst l9 y9 z9
  have hS9 := foldS hS0 (by rw [e6]; exact mo6_0) hSq9 hgq9
  have hown := show T9.vm.findClass _ = some m.cls from (by rw [hSq9.1.alike.findClass]; exact hown)
  have hZ := State.Warmed39.trans (t := s.setVm s.vm) hZ hSq9.1
  have CR9 := CR6.trans CQ9
  obtain ⟨az_9, tz_9, kz_9, rfl, N9q, KC9, P9_0, P9_1, P9_2, P9_3, R9_0, R9_1⟩ := hQ9
  have N9 := Fr.app N0 N9q
  have Z9 : n0 ≤ T9.heap.size := Nat.le_trans Z6 KC9.1
  have mo9_0 := Nat.le_trans mo6_0 KC9.1
  have K9 : Keep h0 T9.heap [] := K6.trans KC9 all0
  have SCS_10 := own_stak SCS_7 KC9 ns0
  have A6_11 := A6.keep KC9
  have F_schema_b6_12 := F_schema_b6.keep KC9 nin0
  have F_name_b6_13 := F_name_b6.keep KC9 nin0
  have ne_b6_az_9 : b6 ≠ az_9 := Nat.ne_of_lt (Nat.lt_of_lt_of_le F_name_b6.lt R9_1)
  have E_az_9_9 : Exa Z T9.heap az_9 "java/lang/String" := P9_0
  have F_value_az_9_9 : Fld Z T9.heap az_9 "java/lang/String" "value" "[B" (.ref tz_9) := P9_1
  have F_coder_az_9_9 : Fld Z T9.heap az_9 "java/lang/String" "coder" "B" (.int (0 : Int32)) := P9_2
  have V_tz_9_9 : Arv Z T9.heap tz_9 kz_9 .byte (own_f2 p1) (((own_str p1).map fun c => c.toInt8.toInt32).map Value.int) (.int (0 : Int32)) := P9_3
  have pre9 : ∀ t, Steps p.tables e below (T9.setTop (mkF m 44 #[.val (.int p1), .val (.int p2), .val (.int p3), .val (.int p4), .val (.int p5), .val (.int v2_0), .val (.int v4_0), .val (.int (((p5.toUInt32 >>> ((2 : Int32) &&& 31).toUInt32).toInt32) &&& (3 : Int32))), .unset, .unset, .unset] [(.ref az_9), (.ref b6), (.ref b6)])) t → Steps p.tables e below (s₁.setTop (entryFrame m #[(.int p1), (.int p2), (.int p3), (.int p4), (.int p5)] maxLocals)) t := fun t kt => pre8 t (st9.trans kt)
  have pre14 : ∀ t, Steps p.tables e below (T9.setTop (mkF m 45 #[.val (.int p1), .val (.int p2), .val (.int p3), .val (.int p4), .val (.int p5), .val (.int v2_0), .val (.int v4_0), .val (.int (((p5.toUInt32 >>> ((2 : Int32) &&& 31).toUInt32).toInt32) &&& (3 : Int32))), .unset, .unset, .unset] [(.int p2), (.ref az_9), (.ref b6), (.ref b6)])) t → Steps p.tables e below (s₁.setTop (entryFrame m #[(.int p1), (.int p2), (.int p3), (.int p4), (.int p5)] maxLocals)) t := by
    intro t kt
    refine pre9 t ?_
    show Steps p.tables e below (T9.setTop (mkF m 44 #[.val (.int p1), .val (.int p2), .val (.int p3), .val (.int p4), .val (.int p5), .val (.int v2_0), .val (.int v4_0), .val (.int (((p5.toUInt32 >>> ((2 : Int32) &&& 31).toUInt32).toInt32) &&& (3 : Int32))), .unset, .unset, .unset] [(.ref az_9), (.ref b6), (.ref b6)])) _
    refine XS.iloadN X9.here hx rfl (hb hby at_44) rfl ?_
    exact kt
  obtain ⟨_, _, ⟨T15, L15, k15, n15⟩, -, X15, hSq15, hgq15, ⟨Lc15, hQ15, l15, y15, z15, CQ15⟩, st15⟩ := callSS (s := s.setVm T9.vm) X9 hx (y := (⟨"com/example/vertumnus/vertumnus/TableNameEqualsPinLaw", "mk", "(I)Ljava/lang/String;"⟩ : MethodName)) hown (mvT hZ (hw _ (List.mem_of_getElem? (i := 3) rfl))) (mvT hZ (hw _ (List.mem_of_getElem? (i := 4) rfl))) (mvT hZ (hw _ (List.mem_of_getElem? (i := 5) rfl))) (mvT hZ (hw _ (List.mem_of_getElem? (i := 6) rfl))) (by decide) (backOfSH (s := s) (vm0 := T9.vm) (W := 3) (rm1 l Z a0 hw [] p2 cz T9.heap n0 Z9 SCS_10 (hCS)) hZ (hw _ (List.mem_of_getElem? (i := 6) rfl)) (hw _ (List.mem_of_getElem? (i := 5) rfl)) (by decide) (by decide) hEL CR9.1) (g := (mkF m 45 #[.val (.int p1), .val (.int p2), .val (.int p3), .val (.int p4), .val (.int p5), .val (.int v2_0), .val (.int v4_0), .val (.int (((p5.toUInt32 >>> ((2 : Int32) &&& 31).toUInt32).toInt32) &&& (3 : Int32))), .unset, .unset, .unset] [(.int p2), (.ref az_9), (.ref b6), (.ref b6)])) rfl (by rw [hml]; rfl) (argsL := [(.int p2)]) (rest := [(.ref az_9), (.ref b6), (.ref b6)]) (lenOf pd_6 rfl) rfl (by show 2 * 0 + _ ≤ _; exact Nat.le_of_eq rfl) (hb hby at_45) (fun _ _ => ⟨rfl, rfl, (by decide : 7 + 6 ≤ _), (by decide : 14 + 12 ≤ _)⟩)
  dsimp only [Pt.U, Pt.locs, Pt.cells, Pt.slots] at X15 l15 y15 z15 st15 hQ15
  subst l15 y15 z15
  have hS15 := foldS hS9 (Nat.le_refl T9.heap.size) hSq15 hgq15
  have hown := show T15.vm.findClass _ = some m.cls from (by rw [hSq15.1.alike.findClass]; exact hown)
  have hZ := State.Warmed39.trans (t := s.setVm T9.vm) hZ hSq15.1
  have CR15 := CR9.trans CQ15
  obtain ⟨az_15, tz_15, kz_15, rfl, N15q, KC15, P15_0, P15_1, P15_2, P15_3, R15_0, R15_1⟩ := hQ15
  have N15 := Fr.app N9 N15q
  have Z15 : n0 ≤ T15.heap.size := Nat.le_trans Z9 KC15.1
  have mo15_0 := Nat.le_trans (Nat.le_refl T9.heap.size) KC15.1
  have K15 : Keep h0 T15.heap [] := K9.trans KC15 all0
  have SCS_16 := own_stak SCS_10 KC15 ns0
  have A6_17 := A6_11.keep KC15
  have F_schema_b6_18 := F_schema_b6_12.keep KC15 nin0
  have F_name_b6_19 := F_name_b6_13.keep KC15 nin0
  have E_az_9_9_20 := E_az_9_9.keep KC15
  have F_value_az_9_9_21 := F_value_az_9_9.keep KC15 nin0
  have F_coder_az_9_9_22 := F_coder_az_9_9.keep KC15 nin0
  have V_tz_9_9_23 := V_tz_9_9.keep KC15 nin0
  have ne_b6_az_15 : b6 ≠ az_15 := Nat.ne_of_lt (Nat.lt_of_lt_of_le F_name_b6_13.lt R15_1)
  have ne_az_9_az_15 : az_9 ≠ az_15 := Nat.ne_of_lt (Nat.lt_of_lt_of_le F_coder_az_9_9.lt R15_1)
  have ne_tz_9_az_15 : tz_9 ≠ az_15 := Nat.ne_of_lt (Nat.lt_of_lt_of_le V_tz_9_9.lt R15_1)
  have E_az_15_15 : Exa Z T15.heap az_15 "java/lang/String" := P15_0
  have F_value_az_15_15 : Fld Z T15.heap az_15 "java/lang/String" "value" "[B" (.ref tz_15) := P15_1
  have F_coder_az_15_15 : Fld Z T15.heap az_15 "java/lang/String" "coder" "B" (.int (0 : Int32)) := P15_2
  have V_tz_15_15 : Arv Z T15.heap tz_15 kz_15 .byte (own_f2 p2) (((own_str p2).map fun c => c.toInt8.toInt32).map Value.int) (.int (0 : Int32)) := P15_3
  have pre15 : ∀ t, Steps p.tables e below (T15.setTop (mkF m 48 #[.val (.int p1), .val (.int p2), .val (.int p3), .val (.int p4), .val (.int p5), .val (.int v2_0), .val (.int v4_0), .val (.int (((p5.toUInt32 >>> ((2 : Int32) &&& 31).toUInt32).toInt32) &&& (3 : Int32))), .unset, .unset, .unset] [(.ref az_15), (.ref az_9), (.ref b6), (.ref b6)])) t → Steps p.tables e below (s₁.setTop (entryFrame m #[(.int p1), (.int p2), (.int p3), (.int p4), (.int p5)] maxLocals)) t := fun t kt => pre14 t (st15.trans kt)
  obtain ⟨_, _, ⟨T24, L24, k24, n24⟩, -, X24, hSq24, hgq24, ⟨Lc24, hQ24, l24, y24, z24, CQ24⟩, st24⟩ := X15.specialBackS (s := s.setVm T15.vm) hx (y := (⟨"com/example/vertumnus/vertumnus/TableName", "<init>", "(Ljava/lang/String;Ljava/lang/String;)V"⟩ : MethodName)) rfl hown (mvT hZ (hw _ (List.mem_of_getElem? (i := 46) rfl))) (mvT hZ (hw _ (List.mem_of_getElem? (i := 47) rfl))) (mvT hZ (hw _ (List.mem_of_getElem? (i := 48) rfl))) (by decide) (backOfSH (s := s) (vm0 := T15.vm) (W := 1) (rm10 l Z a0 hw [] b6 az_9 az_15 T15.heap n0 Z15 A6_17 F_schema_b6_18 F_name_b6_19 E_az_9_9_20 E_az_15_15 g_b6) hZ (hw _ (List.mem_of_getElem? (i := 48) rfl)) (hw _ (List.mem_of_getElem? (i := 2) rfl)) (by decide) (by decide) hEL CR15.1) (g := (mkF m 48 #[.val (.int p1), .val (.int p2), .val (.int p3), .val (.int p4), .val (.int p5), .val (.int v2_0), .val (.int v4_0), .val (.int (((p5.toUInt32 >>> ((2 : Int32) &&& 31).toUInt32).toInt32) &&& (3 : Int32))), .unset, .unset, .unset] [(.ref az_15), (.ref az_9), (.ref b6), (.ref b6)])) rfl (by rw [hml]; rfl) (Steps.refl _) (a := b6) (argsL := [(.ref az_9), (.ref az_15)]) (rest := [(.ref b6)]) (lenOf pd_7 rfl) rfl (by show 2 * 0 + _ ≤ _; exact Nat.le_of_eq rfl) (hb hby at_48) (fun _ _ => ⟨rfl, rfl, (by decide : 13 + 4 ≤ _), (by decide : 26 + 48 ≤ _)⟩)
  dsimp only [Pt.U, Pt.locs, Pt.cells, Pt.slots] at X24 l24 y24 z24 st24 hQ24
  subst l24 y24 z24
  have hS24 := foldS hS15 (Nat.le_refl T15.heap.size) hSq24 hgq24
  have hown := show T24.vm.findClass _ = some m.cls from (by rw [hSq24.1.alike.findClass]; exact hown)
  have hZ := State.Warmed39.trans (t := s.setVm T15.vm) hZ hSq24.1
  have CR24 := CR15.trans CQ24
  obtain ⟨rfl, N24q, KC24, P24_0, P24_1, P24_2⟩ := hQ24
  have N24 := Fr.app N15 N24q
  have Z24 : n0 ≤ T24.heap.size := Nat.le_trans Z15 KC24.1
  have mo24_0 := Nat.le_trans (Nat.le_refl T15.heap.size) KC24.1
  have K24 : Keep h0 T24.heap [] := K15.trans KC24 (allS (Or.inr sz_b6) all0)
  have SCS_25 := own_stak SCS_16 KC24 (nsS A6_17.nostat ns0)
  have A6_26 := A6_17.keep KC24
  have E_az_9_9_29 := E_az_9_9_20.keep KC24
  have F_value_az_9_9_30 := F_value_az_9_9_21.keep KC24 (ninS (Ne.symm ne_b6_az_9) nin0)
  have F_coder_az_9_9_31 := F_coder_az_9_9_22.keep KC24 (ninS (Ne.symm ne_b6_az_9) nin0)
  have V_tz_9_9_32 := V_tz_9_9_23.keep KC24 (ninS (Ne.symm (own_neArv A6_17 (hw _ (List.mem_of_getElem? (i := 1) rfl)) V_tz_9_9_23)) nin0)
  have E_az_15_15_33 := E_az_15_15.keep KC24
  have F_value_az_15_15_34 := F_value_az_15_15.keep KC24 (ninS (Ne.symm ne_b6_az_15) nin0)
  have F_coder_az_15_15_35 := F_coder_az_15_15.keep KC24 (ninS (Ne.symm ne_b6_az_15) nin0)
  have V_tz_15_15_36 := V_tz_15_15.keep KC24 (ninS (Ne.symm (own_neArv A6_17 (hw _ (List.mem_of_getElem? (i := 1) rfl)) V_tz_15_15)) nin0)
  have E_b6_24 : Exa Z T24.heap b6 "com/example/vertumnus/vertumnus/TableName" := P24_0
  have F_schema_b6_24 : Fld Z T24.heap b6 "com/example/vertumnus/vertumnus/TableName" "schema" "Ljava/lang/String;" (.ref az_9) := P24_1
  have F_name_b6_24 : Fld Z T24.heap b6 "com/example/vertumnus/vertumnus/TableName" "name" "Ljava/lang/String;" (.ref az_15) := P24_2
  have pre24 : ∀ t, Steps p.tables e below (T24.setTop (mkF m 51 #[.val (.int p1), .val (.int p2), .val (.int p3), .val (.int p4), .val (.int p5), .val (.int v2_0), .val (.int v4_0), .val (.int (((p5.toUInt32 >>> ((2 : Int32) &&& 31).toUInt32).toInt32) &&& (3 : Int32))), .unset, .unset, .unset] [(.ref b6)])) t → Steps p.tables e below (s₁.setTop (entryFrame m #[(.int p1), (.int p2), (.int p3), (.int p4), (.int p5)] maxLocals)) t := fun t kt => pre15 t (st24.trans kt)
  have pre37 : ∀ t, Steps p.tables e below (T24.setTop (mkF m 55 #[.val (.int p1), .val (.int p2), .val (.int p3), .val (.int p4), .val (.int p5), .val (.int v2_0), .val (.int v4_0), .val (.int (((p5.toUInt32 >>> ((2 : Int32) &&& 31).toUInt32).toInt32) &&& (3 : Int32))), .val (.ref b6), .unset, .unset] [(.int (((p5.toUInt32 >>> ((2 : Int32) &&& 31).toUInt32).toInt32) &&& (3 : Int32)))])) t → Steps p.tables e below (s₁.setTop (entryFrame m #[(.int p1), (.int p2), (.int p3), (.int p4), (.int p5)] maxLocals)) t := by
    intro t kt
    refine pre24 t ?_
    show Steps p.tables e below (T24.setTop (mkF m 51 #[.val (.int p1), .val (.int p2), .val (.int p3), .val (.int p4), .val (.int p5), .val (.int v2_0), .val (.int v4_0), .val (.int (((p5.toUInt32 >>> ((2 : Int32) &&& 31).toUInt32).toInt32) &&& (3 : Int32))), .unset, .unset, .unset] [(.ref b6)])) _
    refine XS.astore X24.here hx rfl (hb hby at_51) rfl rfl (l' := #[.val (.int p1), .val (.int p2), .val (.int p3), .val (.int p4), .val (.int p5), .val (.int v2_0), .val (.int v4_0), .val (.int (((p5.toUInt32 >>> ((2 : Int32) &&& 31).toUInt32).toInt32) &&& (3 : Int32))), .val (.ref b6), .unset, .unset]) rfl ?_
    show Steps p.tables e below (T24.setTop (mkF m 53 #[.val (.int p1), .val (.int p2), .val (.int p3), .val (.int p4), .val (.int p5), .val (.int v2_0), .val (.int v4_0), .val (.int (((p5.toUInt32 >>> ((2 : Int32) &&& 31).toUInt32).toInt32) &&& (3 : Int32))), .val (.ref b6), .unset, .unset] [])) _
    refine XS.iload X24.here hx rfl (hb hby at_53) rfl ?_
    exact kt
  by_cases hc55 : (((p5.toUInt32 >>> ((2 : Int32) &&& 31).toUInt32).toInt32) &&& (3 : Int32)) = (0 : Int32)
  · have pre38 : ∀ t, Steps p.tables e below (T24.setTop (mkF m 58 #[.val (.int p1), .val (.int p2), .val (.int p3), .val (.int p4), .val (.int p5), .val (.int v2_0), .val (.int v4_0), .val (.int (((p5.toUInt32 >>> ((2 : Int32) &&& 31).toUInt32).toInt32) &&& (3 : Int32))), .val (.ref b6), .unset, .unset] [])) t → Steps p.tables e below (s₁.setTop (entryFrame m #[(.int p1), (.int p2), (.int p3), (.int p4), (.int p5)] maxLocals)) t := by
      intro t kt
      refine pre37 t ?_
      show Steps p.tables e below (T24.setTop (mkF m 55 #[.val (.int p1), .val (.int p2), .val (.int p3), .val (.int p4), .val (.int p5), .val (.int v2_0), .val (.int v4_0), .val (.int (((p5.toUInt32 >>> ((2 : Int32) &&& 31).toUInt32).toInt32) &&& (3 : Int32))), .val (.ref b6), .unset, .unset] [(.int (((p5.toUInt32 >>> ((2 : Int32) &&& 31).toUInt32).toInt32) &&& (3 : Int32)))])) _
      refine XS.ifNo X24.here hx rfl (hb hby at_55) rfl ((if0 _ _).trans (teq hc55).2) ?_
      exact kt
    obtain ⟨T39, h39, X39, e39, E39, A39, D39, -, st39⟩ := newO X24 hx hZ hown (hw _ (List.mem_of_getElem? (i := 0) rfl)) (hw _ (List.mem_of_getElem? (i := 1) rfl)) (hw _ (List.mem_of_getElem? (i := 2) rfl)) rfl (g := (mkF m 58 #[.val (.int p1), .val (.int p2), .val (.int p3), .val (.int p4), .val (.int p5), .val (.int v2_0), .val (.int v4_0), .val (.int (((p5.toUInt32 >>> ((2 : Int32) &&& 31).toUInt32).toInt32) &&& (3 : Int32))), .val (.ref b6), .unset, .unset] [])) rfl (hb hby at_58) (by decide) (by decide)
    obtain ⟨b39, g39⟩ : ∃ z, z = T24.heap.size := ⟨_, rfl⟩
    have ne_b6_b39 : b6 ≠ b39 := Nat.ne_of_lt (Nat.lt_of_lt_of_le E_b6_24.lt (Nat.le_of_eq g39.symm))
    have ne_az_9_b39 : az_9 ≠ b39 := Nat.ne_of_lt (Nat.lt_of_lt_of_le E_az_9_9_29.lt (Nat.le_of_eq g39.symm))
    have ne_tz_9_b39 : tz_9 ≠ b39 := Nat.ne_of_lt (Nat.lt_of_lt_of_le V_tz_9_9_32.lt (Nat.le_of_eq g39.symm))
    have ne_az_15_b39 : az_15 ≠ b39 := Nat.ne_of_lt (Nat.lt_of_lt_of_le E_az_15_15_33.lt (Nat.le_of_eq g39.symm))
    have ne_tz_15_b39 : tz_15 ≠ b39 := Nat.ne_of_lt (Nat.lt_of_lt_of_le V_tz_15_15_36.lt (Nat.le_of_eq g39.symm))
    have g_b39 : n0 ≤ b39 := Nat.le_trans Z24 (Nat.le_of_eq g39.symm)
    have sz_b39 : h0.size ≤ b39 := Nat.le_trans K24.1 (Nat.le_of_eq g39.symm)
    rw [← g39] at A39 D39 st39
    have K39 : Keep h0 h39 [] := K24.ext E39
    have Z39 : n0 ≤ h39.size := Nat.le_trans Z24 E39.1
    have mo39_0 := Nat.le_trans (Nat.le_refl T24.heap.size) E39.1
    have CR39 := CR24.trans (CHr.ext E39 CR24.1)
    have SCS_40 := SCS_25.ext E39
    have E_b6_24_41 := E_b6_24.ext E39
    have E_az_9_9_42 := E_az_9_9_29.ext E39
    have F_value_az_9_9_43 := F_value_az_9_9_30.ext E39
    have F_coder_az_9_9_44 := F_coder_az_9_9_31.ext E39
    have V_tz_9_9_45 := V_tz_9_9_32.ext E39
    have E_az_15_15_46 := E_az_15_15_33.ext E39
    have F_value_az_15_15_47 := F_value_az_15_15_34.ext E39
    have F_coder_az_15_15_48 := F_coder_az_15_15_35.ext E39
    have V_tz_15_15_49 := V_tz_15_15_36.ext E39
    have F_schema_b6_24_50 := F_schema_b6_24.ext E39
    have F_name_b6_24_51 := F_name_b6_24.ext E39
    have F_schema_b39 : Fld Z h39 b39 "com/example/vertumnus/vertumnus/TableName" "schema" "Ljava/lang/String;" .null := D39 (Or.inr (hw _ (List.mem_of_getElem? (i := 57) rfl))) (ty := (.object "java/lang/String")) (by decide)
    have F_name_b39 : Fld Z h39 b39 "com/example/vertumnus/vertumnus/TableName" "name" "Ljava/lang/String;" .null := D39 (Or.inr (hw _ (List.mem_of_getElem? (i := 60) rfl))) (ty := (.object "java/lang/String")) (by decide)
    have pre39 : ∀ t, Steps p.tables e below (T39.setTop (mkF m 61 #[.val (.int p1), .val (.int p2), .val (.int p3), .val (.int p4), .val (.int p5), .val (.int v2_0), .val (.int v4_0), .val (.int (((p5.toUInt32 >>> ((2 : Int32) &&& 31).toUInt32).toInt32) &&& (3 : Int32))), .val (.ref b6), .unset, .unset] [(.ref b39)])) t → Steps p.tables e below (s₁.setTop (entryFrame m #[(.int p1), (.int p2), (.int p3), (.int p4), (.int p5)] maxLocals)) t := fun t kt => pre38 t (st39 _ kt)
    have pre52 : ∀ t, Steps p.tables e below (T39.setTop (mkF m 64 #[.val (.int p1), .val (.int p2), .val (.int p3), .val (.int p4), .val (.int p5), .val (.int v2_0), .val (.int v4_0), .val (.int (((p5.toUInt32 >>> ((2 : Int32) &&& 31).toUInt32).toInt32) &&& (3 : Int32))), .val (.ref b6), .unset, .unset] [(.int v2_0), (.ref b39), (.ref b39)])) t → Steps p.tables e below (s₁.setTop (entryFrame m #[(.int p1), (.int p2), (.int p3), (.int p4), (.int p5)] maxLocals)) t := by
      intro t kt
      refine pre39 t ?_
      show Steps p.tables e below (T39.setTop (mkF m 61 #[.val (.int p1), .val (.int p2), .val (.int p3), .val (.int p4), .val (.int p5), .val (.int v2_0), .val (.int v4_0), .val (.int (((p5.toUInt32 >>> ((2 : Int32) &&& 31).toUInt32).toInt32) &&& (3 : Int32))), .val (.ref b6), .unset, .unset] [(.ref b39)])) _
      refine XS.dup X39.here hx rfl (hb hby at_61) rfl rfl ?_
      show Steps p.tables e below (T39.setTop (mkF m 62 #[.val (.int p1), .val (.int p2), .val (.int p3), .val (.int p4), .val (.int p5), .val (.int v2_0), .val (.int v4_0), .val (.int (((p5.toUInt32 >>> ((2 : Int32) &&& 31).toUInt32).toInt32) &&& (3 : Int32))), .val (.ref b6), .unset, .unset] [(.ref b39), (.ref b39)])) _
      refine XS.iload X39.here hx rfl (hb hby at_62) rfl ?_
      exact kt
    obtain ⟨_, _, ⟨T53, L53, k53, n53⟩, -, X53, hSq53, hgq53, ⟨Lc53, hQ53, l53, y53, z53, CQ53⟩, st53⟩ := callSS (s := s.setVm T24.vm) X39 hx (y := (⟨"com/example/vertumnus/vertumnus/TableNameEqualsPinLaw", "mk", "(I)Ljava/lang/String;"⟩ : MethodName)) hown (mvT hZ (hw _ (List.mem_of_getElem? (i := 3) rfl))) (mvT hZ (hw _ (List.mem_of_getElem? (i := 4) rfl))) (mvT hZ (hw _ (List.mem_of_getElem? (i := 5) rfl))) (mvT hZ (hw _ (List.mem_of_getElem? (i := 6) rfl))) (by decide) (backOfSH (s := s) (vm0 := T24.vm) (W := 2) (rm1 l Z a0 hw [] v2_0 cz h39 n0 Z39 SCS_40 (hCS)) hZ (hw _ (List.mem_of_getElem? (i := 6) rfl)) (hw _ (List.mem_of_getElem? (i := 5) rfl)) (by decide) (by decide) hEL CR39.1) (g := (mkF m 64 #[.val (.int p1), .val (.int p2), .val (.int p3), .val (.int p4), .val (.int p5), .val (.int v2_0), .val (.int v4_0), .val (.int (((p5.toUInt32 >>> ((2 : Int32) &&& 31).toUInt32).toInt32) &&& (3 : Int32))), .val (.ref b6), .unset, .unset] [(.int v2_0), (.ref b39), (.ref b39)])) rfl (by rw [hml]; rfl) (argsL := [(.int v2_0)]) (rest := [(.ref b39), (.ref b39)]) (lenOf pd_6 rfl) rfl (by show 2 * 0 + _ ≤ _; exact Nat.le_of_eq rfl) (hb hby at_64) (fun _ _ => ⟨rfl, e39, (by decide : 18 + 6 ≤ _), (by decide : 76 + 12 ≤ _)⟩)
    dsimp only [Pt.U, Pt.locs, Pt.cells, Pt.slots] at X53 l53 y53 z53 st53 hQ53
    subst l53 y53 z53
    have hS53 := foldS hS24 (by rw [e39]; exact mo39_0) hSq53 hgq53
    have hown := show T53.vm.findClass _ = some m.cls from (by rw [hSq53.1.alike.findClass]; exact hown)
    have hZ := State.Warmed39.trans (t := s.setVm T24.vm) hZ hSq53.1
    have CR53 := CR39.trans CQ53
    obtain ⟨az_53, tz_53, kz_53, rfl, N53q, KC53, P53_0, P53_1, P53_2, P53_3, R53_0, R53_1⟩ := hQ53
    have N53 := Fr.app N24 N53q
    have Z53 : n0 ≤ T53.heap.size := Nat.le_trans Z39 KC53.1
    have mo53_0 := Nat.le_trans mo39_0 KC53.1
    have K53 : Keep h0 T53.heap [] := K39.trans KC53 all0
    have SCS_54 := own_stak SCS_40 KC53 ns0
    have E_b6_24_55 := E_b6_24_41.keep KC53
    have E_az_9_9_56 := E_az_9_9_42.keep KC53
    have F_value_az_9_9_57 := F_value_az_9_9_43.keep KC53 nin0
    have F_coder_az_9_9_58 := F_coder_az_9_9_44.keep KC53 nin0
    have V_tz_9_9_59 := V_tz_9_9_45.keep KC53 nin0
    have E_az_15_15_60 := E_az_15_15_46.keep KC53
    have F_value_az_15_15_61 := F_value_az_15_15_47.keep KC53 nin0
    have F_coder_az_15_15_62 := F_coder_az_15_15_48.keep KC53 nin0
    have V_tz_15_15_63 := V_tz_15_15_49.keep KC53 nin0
    have F_schema_b6_24_64 := F_schema_b6_24_50.keep KC53 nin0
    have F_name_b6_24_65 := F_name_b6_24_51.keep KC53 nin0
    have A39_66 := A39.keep KC53
    have F_schema_b39_67 := F_schema_b39.keep KC53 nin0
    have F_name_b39_68 := F_name_b39.keep KC53 nin0
    have ne_b6_az_53 : b6 ≠ az_53 := Nat.ne_of_lt (Nat.lt_of_lt_of_le F_name_b6_24_51.lt R53_1)
    have ne_az_9_az_53 : az_9 ≠ az_53 := Nat.ne_of_lt (Nat.lt_of_lt_of_le F_coder_az_9_9_44.lt R53_1)
    have ne_tz_9_az_53 : tz_9 ≠ az_53 := Nat.ne_of_lt (Nat.lt_of_lt_of_le V_tz_9_9_45.lt R53_1)
    have ne_az_15_az_53 : az_15 ≠ az_53 := Nat.ne_of_lt (Nat.lt_of_lt_of_le F_coder_az_15_15_48.lt R53_1)
    have ne_tz_15_az_53 : tz_15 ≠ az_53 := Nat.ne_of_lt (Nat.lt_of_lt_of_le V_tz_15_15_49.lt R53_1)
    have ne_b39_az_53 : b39 ≠ az_53 := Nat.ne_of_lt (Nat.lt_of_lt_of_le F_name_b39.lt R53_1)
    have E_az_53_53 : Exa Z T53.heap az_53 "java/lang/String" := P53_0
    have F_value_az_53_53 : Fld Z T53.heap az_53 "java/lang/String" "value" "[B" (.ref tz_53) := P53_1
    have F_coder_az_53_53 : Fld Z T53.heap az_53 "java/lang/String" "coder" "B" (.int (0 : Int32)) := P53_2
    have V_tz_53_53 : Arv Z T53.heap tz_53 kz_53 .byte (own_f2 v2_0) (((own_str v2_0).map fun c => c.toInt8.toInt32).map Value.int) (.int (0 : Int32)) := P53_3
    have pre53 : ∀ t, Steps p.tables e below (T53.setTop (mkF m 67 #[.val (.int p1), .val (.int p2), .val (.int p3), .val (.int p4), .val (.int p5), .val (.int v2_0), .val (.int v4_0), .val (.int (((p5.toUInt32 >>> ((2 : Int32) &&& 31).toUInt32).toInt32) &&& (3 : Int32))), .val (.ref b6), .unset, .unset] [(.ref az_53), (.ref b39), (.ref b39)])) t → Steps p.tables e below (s₁.setTop (entryFrame m #[(.int p1), (.int p2), (.int p3), (.int p4), (.int p5)] maxLocals)) t := fun t kt => pre52 t (st53.trans kt)
    have pre69 : ∀ t, Steps p.tables e below (T53.setTop (mkF m 69 #[.val (.int p1), .val (.int p2), .val (.int p3), .val (.int p4), .val (.int p5), .val (.int v2_0), .val (.int v4_0), .val (.int (((p5.toUInt32 >>> ((2 : Int32) &&& 31).toUInt32).toInt32) &&& (3 : Int32))), .val (.ref b6), .unset, .unset] [(.int v4_0), (.ref az_53), (.ref b39), (.ref b39)])) t → Steps p.tables e below (s₁.setTop (entryFrame m #[(.int p1), (.int p2), (.int p3), (.int p4), (.int p5)] maxLocals)) t := by
      intro t kt
      refine pre53 t ?_
      show Steps p.tables e below (T53.setTop (mkF m 67 #[.val (.int p1), .val (.int p2), .val (.int p3), .val (.int p4), .val (.int p5), .val (.int v2_0), .val (.int v4_0), .val (.int (((p5.toUInt32 >>> ((2 : Int32) &&& 31).toUInt32).toInt32) &&& (3 : Int32))), .val (.ref b6), .unset, .unset] [(.ref az_53), (.ref b39), (.ref b39)])) _
      refine XS.iload X53.here hx rfl (hb hby at_67) rfl ?_
      exact kt
    obtain ⟨_, _, ⟨T70, L70, k70, n70⟩, -, X70, hSq70, hgq70, ⟨Lc70, hQ70, l70, y70, z70, CQ70⟩, st70⟩ := callSS (s := s.setVm T53.vm) X53 hx (y := (⟨"com/example/vertumnus/vertumnus/TableNameEqualsPinLaw", "mk", "(I)Ljava/lang/String;"⟩ : MethodName)) hown (mvT hZ (hw _ (List.mem_of_getElem? (i := 3) rfl))) (mvT hZ (hw _ (List.mem_of_getElem? (i := 4) rfl))) (mvT hZ (hw _ (List.mem_of_getElem? (i := 5) rfl))) (mvT hZ (hw _ (List.mem_of_getElem? (i := 6) rfl))) (by decide) (backOfSH (s := s) (vm0 := T53.vm) (W := 3) (rm1 l Z a0 hw [] v4_0 cz T53.heap n0 Z53 SCS_54 (hCS)) hZ (hw _ (List.mem_of_getElem? (i := 6) rfl)) (hw _ (List.mem_of_getElem? (i := 5) rfl)) (by decide) (by decide) hEL CR53.1) (g := (mkF m 69 #[.val (.int p1), .val (.int p2), .val (.int p3), .val (.int p4), .val (.int p5), .val (.int v2_0), .val (.int v4_0), .val (.int (((p5.toUInt32 >>> ((2 : Int32) &&& 31).toUInt32).toInt32) &&& (3 : Int32))), .val (.ref b6), .unset, .unset] [(.int v4_0), (.ref az_53), (.ref b39), (.ref b39)])) rfl (by rw [hml]; rfl) (argsL := [(.int v4_0)]) (rest := [(.ref az_53), (.ref b39), (.ref b39)]) (lenOf pd_6 rfl) rfl (by show 2 * 0 + _ ≤ _; exact Nat.le_of_eq rfl) (hb hby at_69) (fun _ _ => ⟨rfl, rfl, (by decide : 24 + 6 ≤ _), (by decide : 88 + 12 ≤ _)⟩)
    dsimp only [Pt.U, Pt.locs, Pt.cells, Pt.slots] at X70 l70 y70 z70 st70 hQ70
    subst l70 y70 z70
    have hS70 := foldS hS53 (Nat.le_refl T53.heap.size) hSq70 hgq70
    have hown := show T70.vm.findClass _ = some m.cls from (by rw [hSq70.1.alike.findClass]; exact hown)
    have hZ := State.Warmed39.trans (t := s.setVm T53.vm) hZ hSq70.1
    have CR70 := CR53.trans CQ70
    obtain ⟨az_70, tz_70, kz_70, rfl, N70q, KC70, P70_0, P70_1, P70_2, P70_3, R70_0, R70_1⟩ := hQ70
    have N70 := Fr.app N53 N70q
    have Z70 : n0 ≤ T70.heap.size := Nat.le_trans Z53 KC70.1
    have mo70_0 := Nat.le_trans (Nat.le_refl T53.heap.size) KC70.1
    have K70 : Keep h0 T70.heap [] := K53.trans KC70 all0
    have SCS_71 := own_stak SCS_54 KC70 ns0
    have E_b6_24_72 := E_b6_24_55.keep KC70
    have E_az_9_9_73 := E_az_9_9_56.keep KC70
    have F_value_az_9_9_74 := F_value_az_9_9_57.keep KC70 nin0
    have F_coder_az_9_9_75 := F_coder_az_9_9_58.keep KC70 nin0
    have V_tz_9_9_76 := V_tz_9_9_59.keep KC70 nin0
    have E_az_15_15_77 := E_az_15_15_60.keep KC70
    have F_value_az_15_15_78 := F_value_az_15_15_61.keep KC70 nin0
    have F_coder_az_15_15_79 := F_coder_az_15_15_62.keep KC70 nin0
    have V_tz_15_15_80 := V_tz_15_15_63.keep KC70 nin0
    have F_schema_b6_24_81 := F_schema_b6_24_64.keep KC70 nin0
    have F_name_b6_24_82 := F_name_b6_24_65.keep KC70 nin0
    have A39_83 := A39_66.keep KC70
    have F_schema_b39_84 := F_schema_b39_67.keep KC70 nin0
    have F_name_b39_85 := F_name_b39_68.keep KC70 nin0
    have E_az_53_53_86 := E_az_53_53.keep KC70
    have F_value_az_53_53_87 := F_value_az_53_53.keep KC70 nin0
    have F_coder_az_53_53_88 := F_coder_az_53_53.keep KC70 nin0
    have V_tz_53_53_89 := V_tz_53_53.keep KC70 nin0
    have ne_b6_az_70 : b6 ≠ az_70 := Nat.ne_of_lt (Nat.lt_of_lt_of_le F_name_b6_24_65.lt R70_1)
    have ne_az_9_az_70 : az_9 ≠ az_70 := Nat.ne_of_lt (Nat.lt_of_lt_of_le F_coder_az_9_9_58.lt R70_1)
    have ne_tz_9_az_70 : tz_9 ≠ az_70 := Nat.ne_of_lt (Nat.lt_of_lt_of_le V_tz_9_9_59.lt R70_1)
    have ne_az_15_az_70 : az_15 ≠ az_70 := Nat.ne_of_lt (Nat.lt_of_lt_of_le F_coder_az_15_15_62.lt R70_1)
    have ne_tz_15_az_70 : tz_15 ≠ az_70 := Nat.ne_of_lt (Nat.lt_of_lt_of_le V_tz_15_15_63.lt R70_1)
    have ne_b39_az_70 : b39 ≠ az_70 := Nat.ne_of_lt (Nat.lt_of_lt_of_le F_name_b39_68.lt R70_1)
    have ne_az_53_az_70 : az_53 ≠ az_70 := Nat.ne_of_lt (Nat.lt_of_lt_of_le F_coder_az_53_53.lt R70_1)
    have ne_tz_53_az_70 : tz_53 ≠ az_70 := Nat.ne_of_lt (Nat.lt_of_lt_of_le V_tz_53_53.lt R70_1)
    have E_az_70_70 : Exa Z T70.heap az_70 "java/lang/String" := P70_0
    have F_value_az_70_70 : Fld Z T70.heap az_70 "java/lang/String" "value" "[B" (.ref tz_70) := P70_1
    have F_coder_az_70_70 : Fld Z T70.heap az_70 "java/lang/String" "coder" "B" (.int (0 : Int32)) := P70_2
    have V_tz_70_70 : Arv Z T70.heap tz_70 kz_70 .byte (own_f2 v4_0) (((own_str v4_0).map fun c => c.toInt8.toInt32).map Value.int) (.int (0 : Int32)) := P70_3
    have pre70 : ∀ t, Steps p.tables e below (T70.setTop (mkF m 72 #[.val (.int p1), .val (.int p2), .val (.int p3), .val (.int p4), .val (.int p5), .val (.int v2_0), .val (.int v4_0), .val (.int (((p5.toUInt32 >>> ((2 : Int32) &&& 31).toUInt32).toInt32) &&& (3 : Int32))), .val (.ref b6), .unset, .unset] [(.ref az_70), (.ref az_53), (.ref b39), (.ref b39)])) t → Steps p.tables e below (s₁.setTop (entryFrame m #[(.int p1), (.int p2), (.int p3), (.int p4), (.int p5)] maxLocals)) t := fun t kt => pre69 t (st70.trans kt)
    obtain ⟨_, _, ⟨T90, L90, k90, n90⟩, -, X90, hSq90, hgq90, ⟨Lc90, hQ90, l90, y90, z90, CQ90⟩, st90⟩ := X70.specialBackS (s := s.setVm T70.vm) hx (y := (⟨"com/example/vertumnus/vertumnus/TableName", "<init>", "(Ljava/lang/String;Ljava/lang/String;)V"⟩ : MethodName)) rfl hown (mvT hZ (hw _ (List.mem_of_getElem? (i := 46) rfl))) (mvT hZ (hw _ (List.mem_of_getElem? (i := 47) rfl))) (mvT hZ (hw _ (List.mem_of_getElem? (i := 48) rfl))) (by decide) (backOfSH (s := s) (vm0 := T70.vm) (W := 1) (rm10 l Z a0 hw [] b39 az_53 az_70 T70.heap n0 Z70 A39_83 F_schema_b39_84 F_name_b39_85 E_az_53_53_86 E_az_70_70 g_b39) hZ (hw _ (List.mem_of_getElem? (i := 48) rfl)) (hw _ (List.mem_of_getElem? (i := 2) rfl)) (by decide) (by decide) hEL CR70.1) (g := (mkF m 72 #[.val (.int p1), .val (.int p2), .val (.int p3), .val (.int p4), .val (.int p5), .val (.int v2_0), .val (.int v4_0), .val (.int (((p5.toUInt32 >>> ((2 : Int32) &&& 31).toUInt32).toInt32) &&& (3 : Int32))), .val (.ref b6), .unset, .unset] [(.ref az_70), (.ref az_53), (.ref b39), (.ref b39)])) rfl (by rw [hml]; rfl) (Steps.refl _) (a := b39) (argsL := [(.ref az_53), (.ref az_70)]) (rest := [(.ref b39)]) (lenOf pd_7 rfl) rfl (by show 2 * 0 + _ ≤ _; exact Nat.le_of_eq rfl) (hb hby at_72) (fun _ _ => ⟨rfl, rfl, (by decide : 30 + 4 ≤ _), (by decide : 100 + 48 ≤ _)⟩)
    dsimp only [Pt.U, Pt.locs, Pt.cells, Pt.slots] at X90 l90 y90 z90 st90 hQ90
    subst l90 y90 z90
    have hS90 := foldS hS70 (Nat.le_refl T70.heap.size) hSq90 hgq90
    have hown := show T90.vm.findClass _ = some m.cls from (by rw [hSq90.1.alike.findClass]; exact hown)
    have hZ := State.Warmed39.trans (t := s.setVm T70.vm) hZ hSq90.1
    have CR90 := CR70.trans CQ90
    obtain ⟨rfl, N90q, KC90, P90_0, P90_1, P90_2⟩ := hQ90
    have N90 := Fr.app N70 N90q
    have Z90 : n0 ≤ T90.heap.size := Nat.le_trans Z70 KC90.1
    have mo90_0 := Nat.le_trans (Nat.le_refl T70.heap.size) KC90.1
    have K90 : Keep h0 T90.heap [] := K70.trans KC90 (allS (Or.inr sz_b39) all0)
    have SCS_91 := own_stak SCS_71 KC90 (nsS A39_83.nostat ns0)
    have E_b6_24_92 := E_b6_24_72.keep KC90
    have E_az_9_9_93 := E_az_9_9_73.keep KC90
    have F_value_az_9_9_94 := F_value_az_9_9_74.keep KC90 (ninS ne_az_9_b39 nin0)
    have F_coder_az_9_9_95 := F_coder_az_9_9_75.keep KC90 (ninS ne_az_9_b39 nin0)
    have V_tz_9_9_96 := V_tz_9_9_76.keep KC90 (ninS ne_tz_9_b39 nin0)
    have E_az_15_15_97 := E_az_15_15_77.keep KC90
    have F_value_az_15_15_98 := F_value_az_15_15_78.keep KC90 (ninS ne_az_15_b39 nin0)
    have F_coder_az_15_15_99 := F_coder_az_15_15_79.keep KC90 (ninS ne_az_15_b39 nin0)
    have V_tz_15_15_100 := V_tz_15_15_80.keep KC90 (ninS ne_tz_15_b39 nin0)
    have F_schema_b6_24_101 := F_schema_b6_24_81.keep KC90 (ninS ne_b6_b39 nin0)
    have F_name_b6_24_102 := F_name_b6_24_82.keep KC90 (ninS ne_b6_b39 nin0)
    have A39_103 := A39_83.keep KC90
    have E_az_53_53_106 := E_az_53_53_86.keep KC90
    have F_value_az_53_53_107 := F_value_az_53_53_87.keep KC90 (ninS (Ne.symm ne_b39_az_53) nin0)
    have F_coder_az_53_53_108 := F_coder_az_53_53_88.keep KC90 (ninS (Ne.symm ne_b39_az_53) nin0)
    have V_tz_53_53_109 := V_tz_53_53_89.keep KC90 (ninS (Ne.symm (own_neArv A39_83 (hw _ (List.mem_of_getElem? (i := 1) rfl)) V_tz_53_53_89)) nin0)
    have E_az_70_70_110 := E_az_70_70.keep KC90
    have F_value_az_70_70_111 := F_value_az_70_70.keep KC90 (ninS (Ne.symm ne_b39_az_70) nin0)
    have F_coder_az_70_70_112 := F_coder_az_70_70.keep KC90 (ninS (Ne.symm ne_b39_az_70) nin0)
    have V_tz_70_70_113 := V_tz_70_70.keep KC90 (ninS (Ne.symm (own_neArv A39_83 (hw _ (List.mem_of_getElem? (i := 1) rfl)) V_tz_70_70)) nin0)
    have E_b39_90 : Exa Z T90.heap b39 "com/example/vertumnus/vertumnus/TableName" := P90_0
    have F_schema_b39_90 : Fld Z T90.heap b39 "com/example/vertumnus/vertumnus/TableName" "schema" "Ljava/lang/String;" (.ref az_53) := P90_1
    have F_name_b39_90 : Fld Z T90.heap b39 "com/example/vertumnus/vertumnus/TableName" "name" "Ljava/lang/String;" (.ref az_70) := P90_2
    have pre90 : ∀ t, Steps p.tables e below (T90.setTop (mkF m 75 #[.val (.int p1), .val (.int p2), .val (.int p3), .val (.int p4), .val (.int p5), .val (.int v2_0), .val (.int v4_0), .val (.int (((p5.toUInt32 >>> ((2 : Int32) &&& 31).toUInt32).toInt32) &&& (3 : Int32))), .val (.ref b6), .unset, .unset] [(.ref b39)])) t → Steps p.tables e below (s₁.setTop (entryFrame m #[(.int p1), (.int p2), (.int p3), (.int p4), (.int p5)] maxLocals)) t := fun t kt => pre70 t (st90.trans kt)
    have pre114 : ∀ t, Steps p.tables e below (T90.setTop (mkF m 80 #[.val (.int p1), .val (.int p2), .val (.int p3), .val (.int p4), .val (.int p5), .val (.int v2_0), .val (.int v4_0), .val (.int (((p5.toUInt32 >>> ((2 : Int32) &&& 31).toUInt32).toInt32) &&& (3 : Int32))), .val (.ref b6), .val (.ref b39), .unset] [(.int v2_0), (.int p1)])) t → Steps p.tables e below (s₁.setTop (entryFrame m #[(.int p1), (.int p2), (.int p3), (.int p4), (.int p5)] maxLocals)) t := by
      intro t kt
      refine pre90 t ?_
      show Steps p.tables e below (T90.setTop (mkF m 75 #[.val (.int p1), .val (.int p2), .val (.int p3), .val (.int p4), .val (.int p5), .val (.int v2_0), .val (.int v4_0), .val (.int (((p5.toUInt32 >>> ((2 : Int32) &&& 31).toUInt32).toInt32) &&& (3 : Int32))), .val (.ref b6), .unset, .unset] [(.ref b39)])) _
      refine XS.astore X90.here hx rfl (hb hby at_75) rfl rfl (l' := #[.val (.int p1), .val (.int p2), .val (.int p3), .val (.int p4), .val (.int p5), .val (.int v2_0), .val (.int v4_0), .val (.int (((p5.toUInt32 >>> ((2 : Int32) &&& 31).toUInt32).toInt32) &&& (3 : Int32))), .val (.ref b6), .val (.ref b39), .unset]) rfl ?_
      show Steps p.tables e below (T90.setTop (mkF m 77 #[.val (.int p1), .val (.int p2), .val (.int p3), .val (.int p4), .val (.int p5), .val (.int v2_0), .val (.int v4_0), .val (.int (((p5.toUInt32 >>> ((2 : Int32) &&& 31).toUInt32).toInt32) &&& (3 : Int32))), .val (.ref b6), .val (.ref b39), .unset] [])) _
      refine XS.iloadN X90.here hx rfl (hb hby at_77) rfl ?_
      show Steps p.tables e below (T90.setTop (mkF m 78 #[.val (.int p1), .val (.int p2), .val (.int p3), .val (.int p4), .val (.int p5), .val (.int v2_0), .val (.int v4_0), .val (.int (((p5.toUInt32 >>> ((2 : Int32) &&& 31).toUInt32).toInt32) &&& (3 : Int32))), .val (.ref b6), .val (.ref b39), .unset] [(.int p1)])) _
      refine XS.iload X90.here hx rfl (hb hby at_78) rfl ?_
      exact kt
    obtain ⟨_, _, ⟨T115, L115, k115, n115⟩, -, X115, ⟨Lc115, hQ115, l115, y115, z115⟩, st115⟩ := Jvm.LawKit.callS X90 hx (y := (⟨"com/example/vertumnus/vertumnus/TableNameEqualsPinLaw", "same", "(II)Z"⟩ : MethodName)) hown (mvT hZ (hw _ (List.mem_of_getElem? (i := 61) rfl))) (mvT hZ (hw _ (List.mem_of_getElem? (i := 62) rfl))) (mvT hZ (hw _ (List.mem_of_getElem? (i := 5) rfl))) (mvT hZ (hw _ (List.mem_of_getElem? (i := 63) rfl))) (by decide) (backOf (W := 0) (rm12 l Z a0 hw [] p1 v2_0 T90.heap n0 Z90) hZ (hw _ (List.mem_of_getElem? (i := 63) rfl)) (hw _ (List.mem_of_getElem? (i := 5) rfl)) (by decide) (by decide)) (g := (mkF m 80 #[.val (.int p1), .val (.int p2), .val (.int p3), .val (.int p4), .val (.int p5), .val (.int v2_0), .val (.int v4_0), .val (.int (((p5.toUInt32 >>> ((2 : Int32) &&& 31).toUInt32).toInt32) &&& (3 : Int32))), .val (.ref b6), .val (.ref b39), .unset] [(.int v2_0), (.int p1)])) rfl (by rw [hml]; rfl) (argsL := [(.int p1), (.int v2_0)]) (rest := []) (lenOf pd_8 rfl) rfl (by show 2 * 0 + _ ≤ _; exact Nat.le_of_eq rfl) (hb hby at_80) (fun _ _ => ⟨rfl, rfl, (by decide : 34 + 0 ≤ _), (by decide : 148 + 0 ≤ _)⟩)
    dsimp only [Pt.U, Pt.locs, Pt.cells, Pt.slots] at X115 l115 y115 z115 st115 hQ115
    subst l115 y115 z115
    obtain ⟨rfl, N115q, e115⟩ := hQ115
    have N115 := Fr.app N90 N115q
    have pre115 : ∀ t, Steps p.tables e below (T115.setTop (mkF m 83 #[.val (.int p1), .val (.int p2), .val (.int p3), .val (.int p4), .val (.int p5), .val (.int v2_0), .val (.int v4_0), .val (.int (((p5.toUInt32 >>> ((2 : Int32) &&& 31).toUInt32).toInt32) &&& (3 : Int32))), .val (.ref b6), .val (.ref b39), .unset] [(.int (own_same p1 v2_0))])) t → Steps p.tables e below (s₁.setTop (entryFrame m #[(.int p1), (.int p2), (.int p3), (.int p4), (.int p5)] maxLocals)) t := fun t kt => pre114 t (st115 _ kt)
    by_cases hc83 : (own_same p1 v2_0) = (0 : Int32)
    · have pre116 : ∀ t, Steps p.tables e below (T115.setTop (mkF m 99 #[.val (.int p1), .val (.int p2), .val (.int p3), .val (.int p4), .val (.int p5), .val (.int v2_0), .val (.int v4_0), .val (.int (((p5.toUInt32 >>> ((2 : Int32) &&& 31).toUInt32).toInt32) &&& (3 : Int32))), .val (.ref b6), .val (.ref b39), .unset] [])) t → Steps p.tables e below (s₁.setTop (entryFrame m #[(.int p1), (.int p2), (.int p3), (.int p4), (.int p5)] maxLocals)) t := by
        intro t kt
        refine pre115 t ?_
        show Steps p.tables e below (T115.setTop (mkF m 83 #[.val (.int p1), .val (.int p2), .val (.int p3), .val (.int p4), .val (.int p5), .val (.int v2_0), .val (.int v4_0), .val (.int (((p5.toUInt32 >>> ((2 : Int32) &&& 31).toUInt32).toInt32) &&& (3 : Int32))), .val (.ref b6), .val (.ref b39), .unset] [(.int (own_same p1 v2_0))])) _
        refine XS.ifYes X115.here hx rfl (pc0 := 83) (pc' := 99) rfl (hb hby at_83) rfl ((if0 _ _).trans (teq hc83).1) (by decide) (by decide) ?_
        exact kt
      have pre117 : ∀ t, Steps p.tables e below (T115.setTop (mkF m 106 #[.val (.int p1), .val (.int p2), .val (.int p3), .val (.int p4), .val (.int p5), .val (.int v2_0), .val (.int v4_0), .val (.int (((p5.toUInt32 >>> ((2 : Int32) &&& 31).toUInt32).toInt32) &&& (3 : Int32))), .val (.ref b6), .val (.ref b39), .val (.int (0 : Int32))] [(.ref b39), (.ref b6)])) t → Steps p.tables e below (s₁.setTop (entryFrame m #[(.int p1), (.int p2), (.int p3), (.int p4), (.int p5)] maxLocals)) t := by
        intro t kt
        refine pre116 t ?_
        show Steps p.tables e below (T115.setTop (mkF m 99 #[.val (.int p1), .val (.int p2), .val (.int p3), .val (.int p4), .val (.int p5), .val (.int v2_0), .val (.int v4_0), .val (.int (((p5.toUInt32 >>> ((2 : Int32) &&& 31).toUInt32).toInt32) &&& (3 : Int32))), .val (.ref b6), .val (.ref b39), .unset] [])) _
        refine XS.iconst X115.here hx rfl (hb hby at_99) ?_
        show Steps p.tables e below (T115.setTop (mkF m 100 #[.val (.int p1), .val (.int p2), .val (.int p3), .val (.int p4), .val (.int p5), .val (.int v2_0), .val (.int v4_0), .val (.int (((p5.toUInt32 >>> ((2 : Int32) &&& 31).toUInt32).toInt32) &&& (3 : Int32))), .val (.ref b6), .val (.ref b39), .unset] [(.int (0 : Int32))])) _
        refine XS.istore X115.here hx rfl (hb hby at_100) rfl (l' := #[.val (.int p1), .val (.int p2), .val (.int p3), .val (.int p4), .val (.int p5), .val (.int v2_0), .val (.int v4_0), .val (.int (((p5.toUInt32 >>> ((2 : Int32) &&& 31).toUInt32).toInt32) &&& (3 : Int32))), .val (.ref b6), .val (.ref b39), .val (.int (0 : Int32))]) rfl ?_
        show Steps p.tables e below (T115.setTop (mkF m 102 #[.val (.int p1), .val (.int p2), .val (.int p3), .val (.int p4), .val (.int p5), .val (.int v2_0), .val (.int v4_0), .val (.int (((p5.toUInt32 >>> ((2 : Int32) &&& 31).toUInt32).toInt32) &&& (3 : Int32))), .val (.ref b6), .val (.ref b39), .val (.int (0 : Int32))] [])) _
        refine XS.aload X115.here hx rfl (hb hby at_102) rfl rfl ?_
        show Steps p.tables e below (T115.setTop (mkF m 104 #[.val (.int p1), .val (.int p2), .val (.int p3), .val (.int p4), .val (.int p5), .val (.int v2_0), .val (.int v4_0), .val (.int (((p5.toUInt32 >>> ((2 : Int32) &&& 31).toUInt32).toInt32) &&& (3 : Int32))), .val (.ref b6), .val (.ref b39), .val (.int (0 : Int32))] [(.ref b6)])) _
        refine XS.aload X115.here hx rfl (hb hby at_104) rfl rfl ?_
        exact kt
      obtain ⟨cq118, kq118, q118a, q118b, q118c⟩ := isOf hZ e115 E_b6_24_92
      obtain ⟨_, _, ⟨T118, L118, k118, n118⟩, -, X118, ⟨Lc118, hQ118, l118, y118, z118⟩, st118⟩ := X115.virtualBack hx (y := (⟨"com/example/vertumnus/vertumnus/TableName", "equals", "(Ljava/lang/Object;)Z"⟩ : MethodName)) (z := (⟨"com/example/vertumnus/vertumnus/TableName", "equals", "(Ljava/lang/Object;)Z"⟩ : MethodName)) hown (mvT hZ (hw _ (List.mem_of_getElem? (i := 64) rfl))) (mvT hZ (hw _ (List.mem_of_getElem? (i := 65) rfl))) (notFace_of_selects (args := #[]) (mvT hZ (hw _ (List.mem_of_getElem? (i := 67) rfl)))) (mvT hZ (hw _ (List.mem_of_getElem? (i := 67) rfl))) (mvT hZ (hw _ (List.mem_of_getElem? (i := 66) rfl))) (by decide) (backOf (W := 0) (rm13t l Z a0 hw [] b6 b39 cz az_9 tz_9 kz_9 (own_f2 p1) (own_str p1) az_15 tz_15 kz_15 (own_f2 p2) (own_str p2) az_53 tz_53 kz_53 (own_f2 v2_0) (own_str v2_0) az_70 tz_70 kz_70 (own_f2 v4_0) (own_str v4_0) T90.heap n0 Z90 E_b6_24_92 E_b39_90 SCS_91 F_schema_b6_24_101 E_az_9_9_93 F_value_az_9_9_94 F_coder_az_9_9_95 V_tz_9_9_96 F_name_b6_24_102 E_az_15_15_97 F_value_az_15_15_98 F_coder_az_15_15_99 V_tz_15_15_100 F_schema_b39_90 E_az_53_53_106 F_value_az_53_53_107 F_coder_az_53_53_108 V_tz_53_53_109 F_name_b39_90 E_az_70_70_110 F_value_az_70_70_111 F_coder_az_70_70_112 V_tz_70_70_113 (hCS) (own_lenS p1) (own_chS p1) (own_lenS p2) (own_chS p2) (own_lenS v2_0) (own_chS v2_0) (own_lenS v4_0) (own_chS v4_0)) hZ (hw _ (List.mem_of_getElem? (i := 68) rfl)) (hw _ (List.mem_of_getElem? (i := 2) rfl)) (by decide) (by decide)) q118a q118c (g := (mkF m 106 #[.val (.int p1), .val (.int p2), .val (.int p3), .val (.int p4), .val (.int p5), .val (.int v2_0), .val (.int v4_0), .val (.int (((p5.toUInt32 >>> ((2 : Int32) &&& 31).toUInt32).toInt32) &&& (3 : Int32))), .val (.ref b6), .val (.ref b39), .val (.int (0 : Int32))] [(.ref b39), (.ref b6)])) rfl (by rw [hml]; rfl) (Steps.refl _) (argsL := [(.ref b39)]) (rest := []) (lenOf pd_5 rfl) rfl (by show 2 * 0 + _ ≤ _; exact Nat.le_of_eq rfl) (hb hby at_106) (fun _ _ => ⟨rfl, e115, (by decide : 34 + 0 ≤ _), (by decide : 148 + 0 ≤ _)⟩)
      dsimp only [Pt.U, Pt.locs, Pt.cells, Pt.slots] at X118 l118 y118 z118 st118 hQ118
      subst l118 y118 z118
      obtain ⟨rfl, N118q, e118⟩ := hQ118
      have N118 := Fr.app N115 N118q
      have pre118 : ∀ t, Steps p.tables e below (T118.setTop (mkF m 109 #[.val (.int p1), .val (.int p2), .val (.int p3), .val (.int p4), .val (.int p5), .val (.int v2_0), .val (.int v4_0), .val (.int (((p5.toUInt32 >>> ((2 : Int32) &&& 31).toUInt32).toInt32) &&& (3 : Int32))), .val (.ref b6), .val (.ref b39), .val (.int (0 : Int32))] [(.int (own_eq2 (own_str p1) (own_str v2_0) (own_str p2) (own_str v4_0)))])) t → Steps p.tables e below (s₁.setTop (entryFrame m #[(.int p1), (.int p2), (.int p3), (.int p4), (.int p5)] maxLocals)) t := fun t kt => pre117 t (st118.trans kt)
      have pre119 : ∀ t, Steps p.tables e below (T118.setTop (mkF m 111 #[.val (.int p1), .val (.int p2), .val (.int p3), .val (.int p4), .val (.int p5), .val (.int v2_0), .val (.int v4_0), .val (.int (((p5.toUInt32 >>> ((2 : Int32) &&& 31).toUInt32).toInt32) &&& (3 : Int32))), .val (.ref b6), .val (.ref b39), .val (.int (0 : Int32))] [(.int (0 : Int32)), (.int (own_eq2 (own_str p1) (own_str v2_0) (own_str p2) (own_str v4_0)))])) t → Steps p.tables e below (s₁.setTop (entryFrame m #[(.int p1), (.int p2), (.int p3), (.int p4), (.int p5)] maxLocals)) t := by
        intro t kt
        refine pre118 t ?_
        show Steps p.tables e below (T118.setTop (mkF m 109 #[.val (.int p1), .val (.int p2), .val (.int p3), .val (.int p4), .val (.int p5), .val (.int v2_0), .val (.int v4_0), .val (.int (((p5.toUInt32 >>> ((2 : Int32) &&& 31).toUInt32).toInt32) &&& (3 : Int32))), .val (.ref b6), .val (.ref b39), .val (.int (0 : Int32))] [(.int (own_eq2 (own_str p1) (own_str v2_0) (own_str p2) (own_str v4_0)))])) _
        refine XS.iload X118.here hx rfl (hb hby at_109) rfl ?_
        exact kt
      by_cases hc111 : (own_eq2 (own_str p1) (own_str v2_0) (own_str p2) (own_str v4_0)) = (0 : Int32)
      · have pre120 : ∀ t, Steps p.tables e below (T118.setTop (mkF m 114 #[.val (.int p1), .val (.int p2), .val (.int p3), .val (.int p4), .val (.int p5), .val (.int v2_0), .val (.int v4_0), .val (.int (((p5.toUInt32 >>> ((2 : Int32) &&& 31).toUInt32).toInt32) &&& (3 : Int32))), .val (.ref b6), .val (.ref b39), .val (.int (0 : Int32))] [])) t → Steps p.tables e below (s₁.setTop (entryFrame m #[(.int p1), (.int p2), (.int p3), (.int p4), (.int p5)] maxLocals)) t := by
          intro t kt
          refine pre119 t ?_
          show Steps p.tables e below (T118.setTop (mkF m 111 #[.val (.int p1), .val (.int p2), .val (.int p3), .val (.int p4), .val (.int p5), .val (.int v2_0), .val (.int v4_0), .val (.int (((p5.toUInt32 >>> ((2 : Int32) &&& 31).toUInt32).toInt32) &&& (3 : Int32))), .val (.ref b6), .val (.ref b39), .val (.int (0 : Int32))] [(.int (0 : Int32)), (.int (own_eq2 (own_str p1) (own_str v2_0) (own_str p2) (own_str v4_0)))])) _
          refine XS.icmpNo X118.here hx rfl (hb hby at_111) rfl (teq hc111).2 ?_
          exact kt
        have pre121 : ∀ t, Steps p.tables e below (T118.setTop (mkF m 118 #[.val (.int p1), .val (.int p2), .val (.int p3), .val (.int p4), .val (.int p5), .val (.int v2_0), .val (.int v4_0), .val (.int (((p5.toUInt32 >>> ((2 : Int32) &&& 31).toUInt32).toInt32) &&& (3 : Int32))), .val (.ref b6), .val (.ref b39), .val (.int (0 : Int32))] [(.ref b6), (.ref b39)])) t → Steps p.tables e below (s₁.setTop (entryFrame m #[(.int p1), (.int p2), (.int p3), (.int p4), (.int p5)] maxLocals)) t := by
          intro t kt
          refine pre120 t ?_
          show Steps p.tables e below (T118.setTop (mkF m 114 #[.val (.int p1), .val (.int p2), .val (.int p3), .val (.int p4), .val (.int p5), .val (.int v2_0), .val (.int v4_0), .val (.int (((p5.toUInt32 >>> ((2 : Int32) &&& 31).toUInt32).toInt32) &&& (3 : Int32))), .val (.ref b6), .val (.ref b39), .val (.int (0 : Int32))] [])) _
          refine XS.aload X118.here hx rfl (hb hby at_114) rfl rfl ?_
          show Steps p.tables e below (T118.setTop (mkF m 116 #[.val (.int p1), .val (.int p2), .val (.int p3), .val (.int p4), .val (.int p5), .val (.int v2_0), .val (.int v4_0), .val (.int (((p5.toUInt32 >>> ((2 : Int32) &&& 31).toUInt32).toInt32) &&& (3 : Int32))), .val (.ref b6), .val (.ref b39), .val (.int (0 : Int32))] [(.ref b39)])) _
          refine XS.aload X118.here hx rfl (hb hby at_116) rfl rfl ?_
          exact kt
        obtain ⟨cq122, kq122, q122a, q122b, q122c⟩ := isOf hZ e118 E_b39_90
        obtain ⟨_, _, ⟨T122, L122, k122, n122⟩, -, X122, ⟨Lc122, hQ122, l122, y122, z122⟩, st122⟩ := X118.virtualBack hx (y := (⟨"com/example/vertumnus/vertumnus/TableName", "equals", "(Ljava/lang/Object;)Z"⟩ : MethodName)) (z := (⟨"com/example/vertumnus/vertumnus/TableName", "equals", "(Ljava/lang/Object;)Z"⟩ : MethodName)) hown (mvT hZ (hw _ (List.mem_of_getElem? (i := 64) rfl))) (mvT hZ (hw _ (List.mem_of_getElem? (i := 65) rfl))) (notFace_of_selects (args := #[]) (mvT hZ (hw _ (List.mem_of_getElem? (i := 67) rfl)))) (mvT hZ (hw _ (List.mem_of_getElem? (i := 67) rfl))) (mvT hZ (hw _ (List.mem_of_getElem? (i := 66) rfl))) (by decide) (backOf (W := 0) (rm13t l Z a0 hw [] b39 b6 cz az_53 tz_53 kz_53 (own_f2 v2_0) (own_str v2_0) az_70 tz_70 kz_70 (own_f2 v4_0) (own_str v4_0) az_9 tz_9 kz_9 (own_f2 p1) (own_str p1) az_15 tz_15 kz_15 (own_f2 p2) (own_str p2) T90.heap n0 Z90 E_b39_90 E_b6_24_92 SCS_91 F_schema_b39_90 E_az_53_53_106 F_value_az_53_53_107 F_coder_az_53_53_108 V_tz_53_53_109 F_name_b39_90 E_az_70_70_110 F_value_az_70_70_111 F_coder_az_70_70_112 V_tz_70_70_113 F_schema_b6_24_101 E_az_9_9_93 F_value_az_9_9_94 F_coder_az_9_9_95 V_tz_9_9_96 F_name_b6_24_102 E_az_15_15_97 F_value_az_15_15_98 F_coder_az_15_15_99 V_tz_15_15_100 (hCS) (own_lenS v2_0) (own_chS v2_0) (own_lenS v4_0) (own_chS v4_0) (own_lenS p1) (own_chS p1) (own_lenS p2) (own_chS p2)) hZ (hw _ (List.mem_of_getElem? (i := 68) rfl)) (hw _ (List.mem_of_getElem? (i := 2) rfl)) (by decide) (by decide)) q122a q122c (g := (mkF m 118 #[.val (.int p1), .val (.int p2), .val (.int p3), .val (.int p4), .val (.int p5), .val (.int v2_0), .val (.int v4_0), .val (.int (((p5.toUInt32 >>> ((2 : Int32) &&& 31).toUInt32).toInt32) &&& (3 : Int32))), .val (.ref b6), .val (.ref b39), .val (.int (0 : Int32))] [(.ref b6), (.ref b39)])) rfl (by rw [hml]; rfl) (Steps.refl _) (argsL := [(.ref b6)]) (rest := []) (lenOf pd_5 rfl) rfl (by show 2 * 0 + _ ≤ _; exact Nat.le_of_eq rfl) (hb hby at_118) (fun _ _ => ⟨rfl, e118, (by decide : 34 + 0 ≤ _), (by decide : 148 + 0 ≤ _)⟩)
        dsimp only [Pt.U, Pt.locs, Pt.cells, Pt.slots] at X122 l122 y122 z122 st122 hQ122
        subst l122 y122 z122
        obtain ⟨rfl, N122q, e122⟩ := hQ122
        have N122 := Fr.app N118 N122q
        have pre122 : ∀ t, Steps p.tables e below (T122.setTop (mkF m 121 #[.val (.int p1), .val (.int p2), .val (.int p3), .val (.int p4), .val (.int p5), .val (.int v2_0), .val (.int v4_0), .val (.int (((p5.toUInt32 >>> ((2 : Int32) &&& 31).toUInt32).toInt32) &&& (3 : Int32))), .val (.ref b6), .val (.ref b39), .val (.int (0 : Int32))] [(.int (own_eq2 (own_str v2_0) (own_str p1) (own_str v4_0) (own_str p2)))])) t → Steps p.tables e below (s₁.setTop (entryFrame m #[(.int p1), (.int p2), (.int p3), (.int p4), (.int p5)] maxLocals)) t := fun t kt => pre121 t (st122.trans kt)
        have pre123 : ∀ t, Steps p.tables e below (T122.setTop (mkF m 123 #[.val (.int p1), .val (.int p2), .val (.int p3), .val (.int p4), .val (.int p5), .val (.int v2_0), .val (.int v4_0), .val (.int (((p5.toUInt32 >>> ((2 : Int32) &&& 31).toUInt32).toInt32) &&& (3 : Int32))), .val (.ref b6), .val (.ref b39), .val (.int (0 : Int32))] [(.int (0 : Int32)), (.int (own_eq2 (own_str v2_0) (own_str p1) (own_str v4_0) (own_str p2)))])) t → Steps p.tables e below (s₁.setTop (entryFrame m #[(.int p1), (.int p2), (.int p3), (.int p4), (.int p5)] maxLocals)) t := by
          intro t kt
          refine pre122 t ?_
          show Steps p.tables e below (T122.setTop (mkF m 121 #[.val (.int p1), .val (.int p2), .val (.int p3), .val (.int p4), .val (.int p5), .val (.int v2_0), .val (.int v4_0), .val (.int (((p5.toUInt32 >>> ((2 : Int32) &&& 31).toUInt32).toInt32) &&& (3 : Int32))), .val (.ref b6), .val (.ref b39), .val (.int (0 : Int32))] [(.int (own_eq2 (own_str v2_0) (own_str p1) (own_str v4_0) (own_str p2)))])) _
          refine XS.iload X122.here hx rfl (hb hby at_121) rfl ?_
          exact kt
        obtain ⟨v124_0, hv124_0, pre124⟩ : ∃ (v124_0 : Int32), v124_0 = (if (own_eq2 (own_str v2_0) (own_str p1) (own_str v4_0) (own_str p2)) = (0 : Int32) then (1 : Int32) else (0 : Int32)) ∧ ∀ t, Steps p.tables e below (T122.setTop (mkF m 131 #[.val (.int p1), .val (.int p2), .val (.int p3), .val (.int p4), .val (.int p5), .val (.int v2_0), .val (.int v4_0), .val (.int (((p5.toUInt32 >>> ((2 : Int32) &&& 31).toUInt32).toInt32) &&& (3 : Int32))), .val (.ref b6), .val (.ref b39), .val (.int (0 : Int32))] [(.int v124_0)])) t → Steps p.tables e below (s₁.setTop (entryFrame m #[(.int p1), (.int p2), (.int p3), (.int p4), (.int p5)] maxLocals)) t := by
          refine ⟨_, rfl, ?_⟩
          intro t kt
          refine pre123 t ?_
          show Steps p.tables e below (T122.setTop (mkF m 123 #[.val (.int p1), .val (.int p2), .val (.int p3), .val (.int p4), .val (.int p5), .val (.int v2_0), .val (.int v4_0), .val (.int (((p5.toUInt32 >>> ((2 : Int32) &&& 31).toUInt32).toInt32) &&& (3 : Int32))), .val (.ref b6), .val (.ref b39), .val (.int (0 : Int32))] [(.int (0 : Int32)), (.int (own_eq2 (own_str v2_0) (own_str p1) (own_str v4_0) (own_str p2)))])) _
          by_cases hc123 : (own_eq2 (own_str v2_0) (own_str p1) (own_str v4_0) (own_str p2)) = (0 : Int32)
          · (try simp only [if_pos hc123] at kt)
            refine XS.icmpNo X122.here hx rfl (hb hby at_123) rfl (teq hc123).2 ?_
            show Steps p.tables e below (T122.setTop (mkF m 126 #[.val (.int p1), .val (.int p2), .val (.int p3), .val (.int p4), .val (.int p5), .val (.int v2_0), .val (.int v4_0), .val (.int (((p5.toUInt32 >>> ((2 : Int32) &&& 31).toUInt32).toInt32) &&& (3 : Int32))), .val (.ref b6), .val (.ref b39), .val (.int (0 : Int32))] [])) _
            refine XS.iconst X122.here hx rfl (hb hby at_126) ?_
            show Steps p.tables e below (T122.setTop (mkF m 127 #[.val (.int p1), .val (.int p2), .val (.int p3), .val (.int p4), .val (.int p5), .val (.int v2_0), .val (.int v4_0), .val (.int (((p5.toUInt32 >>> ((2 : Int32) &&& 31).toUInt32).toInt32) &&& (3 : Int32))), .val (.ref b6), .val (.ref b39), .val (.int (0 : Int32))] [(.int (1 : Int32))])) _
            refine XS.goto X122.here hx rfl (pc0 := 127) (pc' := 131) rfl (hb hby at_127) (by decide) (by decide) ?_
            exact kt
          · (try simp only [if_neg hc123] at kt)
            refine XS.icmpYes X122.here hx rfl (pc0 := 123) (pc' := 130) rfl (hb hby at_123) rfl (feq hc123).2 (by decide) (by decide) ?_
            show Steps p.tables e below (T122.setTop (mkF m 130 #[.val (.int p1), .val (.int p2), .val (.int p3), .val (.int p4), .val (.int p5), .val (.int v2_0), .val (.int v4_0), .val (.int (((p5.toUInt32 >>> ((2 : Int32) &&& 31).toUInt32).toInt32) &&& (3 : Int32))), .val (.ref b6), .val (.ref b39), .val (.int (0 : Int32))] [])) _
            refine XS.iconst X122.here hx rfl (hb hby at_130) ?_
            exact kt
        have hfin : v124_0 = 1 := by
          rw [hv124_0, own_eqc, own_eqv]; simp [hc83]
        obtain ⟨fs, hr, hrun, hended, hEnd⟩ := X122.leaveW (s := s) (vm₁ := T90.vm) hS90 (by rw [e122]; exact (Nat.le_refl T90.heap.size)) (v := some (.int (1 : Int32))) (fun h => by rw [Bd.returns] at h; cases h)
        refine ⟨_, _, pre124 _ ?_, hrun, hended, _, _, rfl, ?_, hEnd.1, hEnd.2.1, hEnd.2.2.1, hEnd.2.2.2.mono (by decide) (by decide)⟩
        · show Steps p.tables e below (T122.setTop (mkF m 131 #[.val (.int p1), .val (.int p2), .val (.int p3), .val (.int p4), .val (.int p5), .val (.int v2_0), .val (.int v4_0), .val (.int (((p5.toUInt32 >>> ((2 : Int32) &&& 31).toUInt32).toInt32) &&& (3 : Int32))), .val (.ref b6), .val (.ref b39), .val (.int (0 : Int32))] [(.int v124_0)])) _
          rw [hfin]
          exact retN X122 hx (t := .boolean) Bd.returns (by simp) (hb hby at_131) hr
        · show Q0 n0 _ T122.heap _
          rw [e122]
          exact ⟨rfl, N122⟩
      · have pre125 : ∀ t, Steps p.tables e below (T118.setTop (mkF m 130 #[.val (.int p1), .val (.int p2), .val (.int p3), .val (.int p4), .val (.int p5), .val (.int v2_0), .val (.int v4_0), .val (.int (((p5.toUInt32 >>> ((2 : Int32) &&& 31).toUInt32).toInt32) &&& (3 : Int32))), .val (.ref b6), .val (.ref b39), .val (.int (0 : Int32))] [])) t → Steps p.tables e below (s₁.setTop (entryFrame m #[(.int p1), (.int p2), (.int p3), (.int p4), (.int p5)] maxLocals)) t := by
          intro t kt
          refine pre119 t ?_
          show Steps p.tables e below (T118.setTop (mkF m 111 #[.val (.int p1), .val (.int p2), .val (.int p3), .val (.int p4), .val (.int p5), .val (.int v2_0), .val (.int v4_0), .val (.int (((p5.toUInt32 >>> ((2 : Int32) &&& 31).toUInt32).toInt32) &&& (3 : Int32))), .val (.ref b6), .val (.ref b39), .val (.int (0 : Int32))] [(.int (0 : Int32)), (.int (own_eq2 (own_str p1) (own_str v2_0) (own_str p2) (own_str v4_0)))])) _
          refine XS.icmpYes X118.here hx rfl (pc0 := 111) (pc' := 130) rfl (hb hby at_111) rfl (feq hc111).2 (by decide) (by decide) ?_
          exact kt
        have pre126 : ∀ t, Steps p.tables e below (T118.setTop (mkF m 131 #[.val (.int p1), .val (.int p2), .val (.int p3), .val (.int p4), .val (.int p5), .val (.int v2_0), .val (.int v4_0), .val (.int (((p5.toUInt32 >>> ((2 : Int32) &&& 31).toUInt32).toInt32) &&& (3 : Int32))), .val (.ref b6), .val (.ref b39), .val (.int (0 : Int32))] [(.int (0 : Int32))])) t → Steps p.tables e below (s₁.setTop (entryFrame m #[(.int p1), (.int p2), (.int p3), (.int p4), (.int p5)] maxLocals)) t := by
          intro t kt
          refine pre125 t ?_
          show Steps p.tables e below (T118.setTop (mkF m 130 #[.val (.int p1), .val (.int p2), .val (.int p3), .val (.int p4), .val (.int p5), .val (.int v2_0), .val (.int v4_0), .val (.int (((p5.toUInt32 >>> ((2 : Int32) &&& 31).toUInt32).toInt32) &&& (3 : Int32))), .val (.ref b6), .val (.ref b39), .val (.int (0 : Int32))] [])) _
          refine XS.iconst X118.here hx rfl (hb hby at_130) ?_
          exact kt
        exfalso
        exact hc111 (by rw [own_eqv]; simp [hc83])
    · have pre127 : ∀ t, Steps p.tables e below (T115.setTop (mkF m 86 #[.val (.int p1), .val (.int p2), .val (.int p3), .val (.int p4), .val (.int p5), .val (.int v2_0), .val (.int v4_0), .val (.int (((p5.toUInt32 >>> ((2 : Int32) &&& 31).toUInt32).toInt32) &&& (3 : Int32))), .val (.ref b6), .val (.ref b39), .unset] [])) t → Steps p.tables e below (s₁.setTop (entryFrame m #[(.int p1), (.int p2), (.int p3), (.int p4), (.int p5)] maxLocals)) t := by
        intro t kt
        refine pre115 t ?_
        show Steps p.tables e below (T115.setTop (mkF m 83 #[.val (.int p1), .val (.int p2), .val (.int p3), .val (.int p4), .val (.int p5), .val (.int v2_0), .val (.int v4_0), .val (.int (((p5.toUInt32 >>> ((2 : Int32) &&& 31).toUInt32).toInt32) &&& (3 : Int32))), .val (.ref b6), .val (.ref b39), .unset] [(.int (own_same p1 v2_0))])) _
        refine XS.ifNo X115.here hx rfl (hb hby at_83) rfl ((if0 _ _).trans (feq hc83).1) ?_
        exact kt
      have pre128 : ∀ t, Steps p.tables e below (T115.setTop (mkF m 89 #[.val (.int p1), .val (.int p2), .val (.int p3), .val (.int p4), .val (.int p5), .val (.int v2_0), .val (.int v4_0), .val (.int (((p5.toUInt32 >>> ((2 : Int32) &&& 31).toUInt32).toInt32) &&& (3 : Int32))), .val (.ref b6), .val (.ref b39), .unset] [(.int v4_0), (.int p2)])) t → Steps p.tables e below (s₁.setTop (entryFrame m #[(.int p1), (.int p2), (.int p3), (.int p4), (.int p5)] maxLocals)) t := by
        intro t kt
        refine pre127 t ?_
        show Steps p.tables e below (T115.setTop (mkF m 86 #[.val (.int p1), .val (.int p2), .val (.int p3), .val (.int p4), .val (.int p5), .val (.int v2_0), .val (.int v4_0), .val (.int (((p5.toUInt32 >>> ((2 : Int32) &&& 31).toUInt32).toInt32) &&& (3 : Int32))), .val (.ref b6), .val (.ref b39), .unset] [])) _
        refine XS.iloadN X115.here hx rfl (hb hby at_86) rfl ?_
        show Steps p.tables e below (T115.setTop (mkF m 87 #[.val (.int p1), .val (.int p2), .val (.int p3), .val (.int p4), .val (.int p5), .val (.int v2_0), .val (.int v4_0), .val (.int (((p5.toUInt32 >>> ((2 : Int32) &&& 31).toUInt32).toInt32) &&& (3 : Int32))), .val (.ref b6), .val (.ref b39), .unset] [(.int p2)])) _
        refine XS.iload X115.here hx rfl (hb hby at_87) rfl ?_
        exact kt
      obtain ⟨_, _, ⟨T129, L129, k129, n129⟩, -, X129, ⟨Lc129, hQ129, l129, y129, z129⟩, st129⟩ := Jvm.LawKit.callS X115 hx (y := (⟨"com/example/vertumnus/vertumnus/TableNameEqualsPinLaw", "same", "(II)Z"⟩ : MethodName)) hown (mvT hZ (hw _ (List.mem_of_getElem? (i := 61) rfl))) (mvT hZ (hw _ (List.mem_of_getElem? (i := 62) rfl))) (mvT hZ (hw _ (List.mem_of_getElem? (i := 5) rfl))) (mvT hZ (hw _ (List.mem_of_getElem? (i := 63) rfl))) (by decide) (backOf (W := 0) (rm12 l Z a0 hw [] p2 v4_0 T90.heap n0 Z90) hZ (hw _ (List.mem_of_getElem? (i := 63) rfl)) (hw _ (List.mem_of_getElem? (i := 5) rfl)) (by decide) (by decide)) (g := (mkF m 89 #[.val (.int p1), .val (.int p2), .val (.int p3), .val (.int p4), .val (.int p5), .val (.int v2_0), .val (.int v4_0), .val (.int (((p5.toUInt32 >>> ((2 : Int32) &&& 31).toUInt32).toInt32) &&& (3 : Int32))), .val (.ref b6), .val (.ref b39), .unset] [(.int v4_0), (.int p2)])) rfl (by rw [hml]; rfl) (argsL := [(.int p2), (.int v4_0)]) (rest := []) (lenOf pd_8 rfl) rfl (by show 2 * 0 + _ ≤ _; exact Nat.le_of_eq rfl) (hb hby at_89) (fun _ _ => ⟨rfl, e115, (by decide : 34 + 0 ≤ _), (by decide : 148 + 0 ≤ _)⟩)
      dsimp only [Pt.U, Pt.locs, Pt.cells, Pt.slots] at X129 l129 y129 z129 st129 hQ129
      subst l129 y129 z129
      obtain ⟨rfl, N129q, e129⟩ := hQ129
      have N129 := Fr.app N115 N129q
      have pre129 : ∀ t, Steps p.tables e below (T129.setTop (mkF m 92 #[.val (.int p1), .val (.int p2), .val (.int p3), .val (.int p4), .val (.int p5), .val (.int v2_0), .val (.int v4_0), .val (.int (((p5.toUInt32 >>> ((2 : Int32) &&& 31).toUInt32).toInt32) &&& (3 : Int32))), .val (.ref b6), .val (.ref b39), .unset] [(.int (own_same p2 v4_0))])) t → Steps p.tables e below (s₁.setTop (entryFrame m #[(.int p1), (.int p2), (.int p3), (.int p4), (.int p5)] maxLocals)) t := fun t kt => pre128 t (st129 _ kt)
      by_cases hc92 : (own_same p2 v4_0) = (0 : Int32)
      · have pre130 : ∀ t, Steps p.tables e below (T129.setTop (mkF m 99 #[.val (.int p1), .val (.int p2), .val (.int p3), .val (.int p4), .val (.int p5), .val (.int v2_0), .val (.int v4_0), .val (.int (((p5.toUInt32 >>> ((2 : Int32) &&& 31).toUInt32).toInt32) &&& (3 : Int32))), .val (.ref b6), .val (.ref b39), .unset] [])) t → Steps p.tables e below (s₁.setTop (entryFrame m #[(.int p1), (.int p2), (.int p3), (.int p4), (.int p5)] maxLocals)) t := by
          intro t kt
          refine pre129 t ?_
          show Steps p.tables e below (T129.setTop (mkF m 92 #[.val (.int p1), .val (.int p2), .val (.int p3), .val (.int p4), .val (.int p5), .val (.int v2_0), .val (.int v4_0), .val (.int (((p5.toUInt32 >>> ((2 : Int32) &&& 31).toUInt32).toInt32) &&& (3 : Int32))), .val (.ref b6), .val (.ref b39), .unset] [(.int (own_same p2 v4_0))])) _
          refine XS.ifYes X129.here hx rfl (pc0 := 92) (pc' := 99) rfl (hb hby at_92) rfl ((if0 _ _).trans (teq hc92).1) (by decide) (by decide) ?_
          exact kt
        have pre131 : ∀ t, Steps p.tables e below (T129.setTop (mkF m 106 #[.val (.int p1), .val (.int p2), .val (.int p3), .val (.int p4), .val (.int p5), .val (.int v2_0), .val (.int v4_0), .val (.int (((p5.toUInt32 >>> ((2 : Int32) &&& 31).toUInt32).toInt32) &&& (3 : Int32))), .val (.ref b6), .val (.ref b39), .val (.int (0 : Int32))] [(.ref b39), (.ref b6)])) t → Steps p.tables e below (s₁.setTop (entryFrame m #[(.int p1), (.int p2), (.int p3), (.int p4), (.int p5)] maxLocals)) t := by
          intro t kt
          refine pre130 t ?_
          show Steps p.tables e below (T129.setTop (mkF m 99 #[.val (.int p1), .val (.int p2), .val (.int p3), .val (.int p4), .val (.int p5), .val (.int v2_0), .val (.int v4_0), .val (.int (((p5.toUInt32 >>> ((2 : Int32) &&& 31).toUInt32).toInt32) &&& (3 : Int32))), .val (.ref b6), .val (.ref b39), .unset] [])) _
          refine XS.iconst X129.here hx rfl (hb hby at_99) ?_
          show Steps p.tables e below (T129.setTop (mkF m 100 #[.val (.int p1), .val (.int p2), .val (.int p3), .val (.int p4), .val (.int p5), .val (.int v2_0), .val (.int v4_0), .val (.int (((p5.toUInt32 >>> ((2 : Int32) &&& 31).toUInt32).toInt32) &&& (3 : Int32))), .val (.ref b6), .val (.ref b39), .unset] [(.int (0 : Int32))])) _
          refine XS.istore X129.here hx rfl (hb hby at_100) rfl (l' := #[.val (.int p1), .val (.int p2), .val (.int p3), .val (.int p4), .val (.int p5), .val (.int v2_0), .val (.int v4_0), .val (.int (((p5.toUInt32 >>> ((2 : Int32) &&& 31).toUInt32).toInt32) &&& (3 : Int32))), .val (.ref b6), .val (.ref b39), .val (.int (0 : Int32))]) rfl ?_
          show Steps p.tables e below (T129.setTop (mkF m 102 #[.val (.int p1), .val (.int p2), .val (.int p3), .val (.int p4), .val (.int p5), .val (.int v2_0), .val (.int v4_0), .val (.int (((p5.toUInt32 >>> ((2 : Int32) &&& 31).toUInt32).toInt32) &&& (3 : Int32))), .val (.ref b6), .val (.ref b39), .val (.int (0 : Int32))] [])) _
          refine XS.aload X129.here hx rfl (hb hby at_102) rfl rfl ?_
          show Steps p.tables e below (T129.setTop (mkF m 104 #[.val (.int p1), .val (.int p2), .val (.int p3), .val (.int p4), .val (.int p5), .val (.int v2_0), .val (.int v4_0), .val (.int (((p5.toUInt32 >>> ((2 : Int32) &&& 31).toUInt32).toInt32) &&& (3 : Int32))), .val (.ref b6), .val (.ref b39), .val (.int (0 : Int32))] [(.ref b6)])) _
          refine XS.aload X129.here hx rfl (hb hby at_104) rfl rfl ?_
          exact kt
        obtain ⟨cq132, kq132, q132a, q132b, q132c⟩ := isOf hZ e129 E_b6_24_92
        obtain ⟨_, _, ⟨T132, L132, k132, n132⟩, -, X132, ⟨Lc132, hQ132, l132, y132, z132⟩, st132⟩ := X129.virtualBack hx (y := (⟨"com/example/vertumnus/vertumnus/TableName", "equals", "(Ljava/lang/Object;)Z"⟩ : MethodName)) (z := (⟨"com/example/vertumnus/vertumnus/TableName", "equals", "(Ljava/lang/Object;)Z"⟩ : MethodName)) hown (mvT hZ (hw _ (List.mem_of_getElem? (i := 64) rfl))) (mvT hZ (hw _ (List.mem_of_getElem? (i := 65) rfl))) (notFace_of_selects (args := #[]) (mvT hZ (hw _ (List.mem_of_getElem? (i := 67) rfl)))) (mvT hZ (hw _ (List.mem_of_getElem? (i := 67) rfl))) (mvT hZ (hw _ (List.mem_of_getElem? (i := 66) rfl))) (by decide) (backOf (W := 0) (rm13t l Z a0 hw [] b6 b39 cz az_9 tz_9 kz_9 (own_f2 p1) (own_str p1) az_15 tz_15 kz_15 (own_f2 p2) (own_str p2) az_53 tz_53 kz_53 (own_f2 v2_0) (own_str v2_0) az_70 tz_70 kz_70 (own_f2 v4_0) (own_str v4_0) T90.heap n0 Z90 E_b6_24_92 E_b39_90 SCS_91 F_schema_b6_24_101 E_az_9_9_93 F_value_az_9_9_94 F_coder_az_9_9_95 V_tz_9_9_96 F_name_b6_24_102 E_az_15_15_97 F_value_az_15_15_98 F_coder_az_15_15_99 V_tz_15_15_100 F_schema_b39_90 E_az_53_53_106 F_value_az_53_53_107 F_coder_az_53_53_108 V_tz_53_53_109 F_name_b39_90 E_az_70_70_110 F_value_az_70_70_111 F_coder_az_70_70_112 V_tz_70_70_113 (hCS) (own_lenS p1) (own_chS p1) (own_lenS p2) (own_chS p2) (own_lenS v2_0) (own_chS v2_0) (own_lenS v4_0) (own_chS v4_0)) hZ (hw _ (List.mem_of_getElem? (i := 68) rfl)) (hw _ (List.mem_of_getElem? (i := 2) rfl)) (by decide) (by decide)) q132a q132c (g := (mkF m 106 #[.val (.int p1), .val (.int p2), .val (.int p3), .val (.int p4), .val (.int p5), .val (.int v2_0), .val (.int v4_0), .val (.int (((p5.toUInt32 >>> ((2 : Int32) &&& 31).toUInt32).toInt32) &&& (3 : Int32))), .val (.ref b6), .val (.ref b39), .val (.int (0 : Int32))] [(.ref b39), (.ref b6)])) rfl (by rw [hml]; rfl) (Steps.refl _) (argsL := [(.ref b39)]) (rest := []) (lenOf pd_5 rfl) rfl (by show 2 * 0 + _ ≤ _; exact Nat.le_of_eq rfl) (hb hby at_106) (fun _ _ => ⟨rfl, e129, (by decide : 34 + 0 ≤ _), (by decide : 148 + 0 ≤ _)⟩)
        dsimp only [Pt.U, Pt.locs, Pt.cells, Pt.slots] at X132 l132 y132 z132 st132 hQ132
        subst l132 y132 z132
        obtain ⟨rfl, N132q, e132⟩ := hQ132
        have N132 := Fr.app N129 N132q
        have pre132 : ∀ t, Steps p.tables e below (T132.setTop (mkF m 109 #[.val (.int p1), .val (.int p2), .val (.int p3), .val (.int p4), .val (.int p5), .val (.int v2_0), .val (.int v4_0), .val (.int (((p5.toUInt32 >>> ((2 : Int32) &&& 31).toUInt32).toInt32) &&& (3 : Int32))), .val (.ref b6), .val (.ref b39), .val (.int (0 : Int32))] [(.int (own_eq2 (own_str p1) (own_str v2_0) (own_str p2) (own_str v4_0)))])) t → Steps p.tables e below (s₁.setTop (entryFrame m #[(.int p1), (.int p2), (.int p3), (.int p4), (.int p5)] maxLocals)) t := fun t kt => pre131 t (st132.trans kt)
        have pre133 : ∀ t, Steps p.tables e below (T132.setTop (mkF m 111 #[.val (.int p1), .val (.int p2), .val (.int p3), .val (.int p4), .val (.int p5), .val (.int v2_0), .val (.int v4_0), .val (.int (((p5.toUInt32 >>> ((2 : Int32) &&& 31).toUInt32).toInt32) &&& (3 : Int32))), .val (.ref b6), .val (.ref b39), .val (.int (0 : Int32))] [(.int (0 : Int32)), (.int (own_eq2 (own_str p1) (own_str v2_0) (own_str p2) (own_str v4_0)))])) t → Steps p.tables e below (s₁.setTop (entryFrame m #[(.int p1), (.int p2), (.int p3), (.int p4), (.int p5)] maxLocals)) t := by
          intro t kt
          refine pre132 t ?_
          show Steps p.tables e below (T132.setTop (mkF m 109 #[.val (.int p1), .val (.int p2), .val (.int p3), .val (.int p4), .val (.int p5), .val (.int v2_0), .val (.int v4_0), .val (.int (((p5.toUInt32 >>> ((2 : Int32) &&& 31).toUInt32).toInt32) &&& (3 : Int32))), .val (.ref b6), .val (.ref b39), .val (.int (0 : Int32))] [(.int (own_eq2 (own_str p1) (own_str v2_0) (own_str p2) (own_str v4_0)))])) _
          refine XS.iload X132.here hx rfl (hb hby at_109) rfl ?_
          exact kt
        by_cases hc111 : (own_eq2 (own_str p1) (own_str v2_0) (own_str p2) (own_str v4_0)) = (0 : Int32)
        · have pre134 : ∀ t, Steps p.tables e below (T132.setTop (mkF m 114 #[.val (.int p1), .val (.int p2), .val (.int p3), .val (.int p4), .val (.int p5), .val (.int v2_0), .val (.int v4_0), .val (.int (((p5.toUInt32 >>> ((2 : Int32) &&& 31).toUInt32).toInt32) &&& (3 : Int32))), .val (.ref b6), .val (.ref b39), .val (.int (0 : Int32))] [])) t → Steps p.tables e below (s₁.setTop (entryFrame m #[(.int p1), (.int p2), (.int p3), (.int p4), (.int p5)] maxLocals)) t := by
            intro t kt
            refine pre133 t ?_
            show Steps p.tables e below (T132.setTop (mkF m 111 #[.val (.int p1), .val (.int p2), .val (.int p3), .val (.int p4), .val (.int p5), .val (.int v2_0), .val (.int v4_0), .val (.int (((p5.toUInt32 >>> ((2 : Int32) &&& 31).toUInt32).toInt32) &&& (3 : Int32))), .val (.ref b6), .val (.ref b39), .val (.int (0 : Int32))] [(.int (0 : Int32)), (.int (own_eq2 (own_str p1) (own_str v2_0) (own_str p2) (own_str v4_0)))])) _
            refine XS.icmpNo X132.here hx rfl (hb hby at_111) rfl (teq hc111).2 ?_
            exact kt
          have pre135 : ∀ t, Steps p.tables e below (T132.setTop (mkF m 118 #[.val (.int p1), .val (.int p2), .val (.int p3), .val (.int p4), .val (.int p5), .val (.int v2_0), .val (.int v4_0), .val (.int (((p5.toUInt32 >>> ((2 : Int32) &&& 31).toUInt32).toInt32) &&& (3 : Int32))), .val (.ref b6), .val (.ref b39), .val (.int (0 : Int32))] [(.ref b6), (.ref b39)])) t → Steps p.tables e below (s₁.setTop (entryFrame m #[(.int p1), (.int p2), (.int p3), (.int p4), (.int p5)] maxLocals)) t := by
            intro t kt
            refine pre134 t ?_
            show Steps p.tables e below (T132.setTop (mkF m 114 #[.val (.int p1), .val (.int p2), .val (.int p3), .val (.int p4), .val (.int p5), .val (.int v2_0), .val (.int v4_0), .val (.int (((p5.toUInt32 >>> ((2 : Int32) &&& 31).toUInt32).toInt32) &&& (3 : Int32))), .val (.ref b6), .val (.ref b39), .val (.int (0 : Int32))] [])) _
            refine XS.aload X132.here hx rfl (hb hby at_114) rfl rfl ?_
            show Steps p.tables e below (T132.setTop (mkF m 116 #[.val (.int p1), .val (.int p2), .val (.int p3), .val (.int p4), .val (.int p5), .val (.int v2_0), .val (.int v4_0), .val (.int (((p5.toUInt32 >>> ((2 : Int32) &&& 31).toUInt32).toInt32) &&& (3 : Int32))), .val (.ref b6), .val (.ref b39), .val (.int (0 : Int32))] [(.ref b39)])) _
            refine XS.aload X132.here hx rfl (hb hby at_116) rfl rfl ?_
            exact kt
          obtain ⟨cq136, kq136, q136a, q136b, q136c⟩ := isOf hZ e132 E_b39_90
          obtain ⟨_, _, ⟨T136, L136, k136, n136⟩, -, X136, ⟨Lc136, hQ136, l136, y136, z136⟩, st136⟩ := X132.virtualBack hx (y := (⟨"com/example/vertumnus/vertumnus/TableName", "equals", "(Ljava/lang/Object;)Z"⟩ : MethodName)) (z := (⟨"com/example/vertumnus/vertumnus/TableName", "equals", "(Ljava/lang/Object;)Z"⟩ : MethodName)) hown (mvT hZ (hw _ (List.mem_of_getElem? (i := 64) rfl))) (mvT hZ (hw _ (List.mem_of_getElem? (i := 65) rfl))) (notFace_of_selects (args := #[]) (mvT hZ (hw _ (List.mem_of_getElem? (i := 67) rfl)))) (mvT hZ (hw _ (List.mem_of_getElem? (i := 67) rfl))) (mvT hZ (hw _ (List.mem_of_getElem? (i := 66) rfl))) (by decide) (backOf (W := 0) (rm13t l Z a0 hw [] b39 b6 cz az_53 tz_53 kz_53 (own_f2 v2_0) (own_str v2_0) az_70 tz_70 kz_70 (own_f2 v4_0) (own_str v4_0) az_9 tz_9 kz_9 (own_f2 p1) (own_str p1) az_15 tz_15 kz_15 (own_f2 p2) (own_str p2) T90.heap n0 Z90 E_b39_90 E_b6_24_92 SCS_91 F_schema_b39_90 E_az_53_53_106 F_value_az_53_53_107 F_coder_az_53_53_108 V_tz_53_53_109 F_name_b39_90 E_az_70_70_110 F_value_az_70_70_111 F_coder_az_70_70_112 V_tz_70_70_113 F_schema_b6_24_101 E_az_9_9_93 F_value_az_9_9_94 F_coder_az_9_9_95 V_tz_9_9_96 F_name_b6_24_102 E_az_15_15_97 F_value_az_15_15_98 F_coder_az_15_15_99 V_tz_15_15_100 (hCS) (own_lenS v2_0) (own_chS v2_0) (own_lenS v4_0) (own_chS v4_0) (own_lenS p1) (own_chS p1) (own_lenS p2) (own_chS p2)) hZ (hw _ (List.mem_of_getElem? (i := 68) rfl)) (hw _ (List.mem_of_getElem? (i := 2) rfl)) (by decide) (by decide)) q136a q136c (g := (mkF m 118 #[.val (.int p1), .val (.int p2), .val (.int p3), .val (.int p4), .val (.int p5), .val (.int v2_0), .val (.int v4_0), .val (.int (((p5.toUInt32 >>> ((2 : Int32) &&& 31).toUInt32).toInt32) &&& (3 : Int32))), .val (.ref b6), .val (.ref b39), .val (.int (0 : Int32))] [(.ref b6), (.ref b39)])) rfl (by rw [hml]; rfl) (Steps.refl _) (argsL := [(.ref b6)]) (rest := []) (lenOf pd_5 rfl) rfl (by show 2 * 0 + _ ≤ _; exact Nat.le_of_eq rfl) (hb hby at_118) (fun _ _ => ⟨rfl, e132, (by decide : 34 + 0 ≤ _), (by decide : 148 + 0 ≤ _)⟩)
          dsimp only [Pt.U, Pt.locs, Pt.cells, Pt.slots] at X136 l136 y136 z136 st136 hQ136
          subst l136 y136 z136
          obtain ⟨rfl, N136q, e136⟩ := hQ136
          have N136 := Fr.app N132 N136q
          have pre136 : ∀ t, Steps p.tables e below (T136.setTop (mkF m 121 #[.val (.int p1), .val (.int p2), .val (.int p3), .val (.int p4), .val (.int p5), .val (.int v2_0), .val (.int v4_0), .val (.int (((p5.toUInt32 >>> ((2 : Int32) &&& 31).toUInt32).toInt32) &&& (3 : Int32))), .val (.ref b6), .val (.ref b39), .val (.int (0 : Int32))] [(.int (own_eq2 (own_str v2_0) (own_str p1) (own_str v4_0) (own_str p2)))])) t → Steps p.tables e below (s₁.setTop (entryFrame m #[(.int p1), (.int p2), (.int p3), (.int p4), (.int p5)] maxLocals)) t := fun t kt => pre135 t (st136.trans kt)
          have pre137 : ∀ t, Steps p.tables e below (T136.setTop (mkF m 123 #[.val (.int p1), .val (.int p2), .val (.int p3), .val (.int p4), .val (.int p5), .val (.int v2_0), .val (.int v4_0), .val (.int (((p5.toUInt32 >>> ((2 : Int32) &&& 31).toUInt32).toInt32) &&& (3 : Int32))), .val (.ref b6), .val (.ref b39), .val (.int (0 : Int32))] [(.int (0 : Int32)), (.int (own_eq2 (own_str v2_0) (own_str p1) (own_str v4_0) (own_str p2)))])) t → Steps p.tables e below (s₁.setTop (entryFrame m #[(.int p1), (.int p2), (.int p3), (.int p4), (.int p5)] maxLocals)) t := by
            intro t kt
            refine pre136 t ?_
            show Steps p.tables e below (T136.setTop (mkF m 121 #[.val (.int p1), .val (.int p2), .val (.int p3), .val (.int p4), .val (.int p5), .val (.int v2_0), .val (.int v4_0), .val (.int (((p5.toUInt32 >>> ((2 : Int32) &&& 31).toUInt32).toInt32) &&& (3 : Int32))), .val (.ref b6), .val (.ref b39), .val (.int (0 : Int32))] [(.int (own_eq2 (own_str v2_0) (own_str p1) (own_str v4_0) (own_str p2)))])) _
            refine XS.iload X136.here hx rfl (hb hby at_121) rfl ?_
            exact kt
          obtain ⟨v138_0, hv138_0, pre138⟩ : ∃ (v138_0 : Int32), v138_0 = (if (own_eq2 (own_str v2_0) (own_str p1) (own_str v4_0) (own_str p2)) = (0 : Int32) then (1 : Int32) else (0 : Int32)) ∧ ∀ t, Steps p.tables e below (T136.setTop (mkF m 131 #[.val (.int p1), .val (.int p2), .val (.int p3), .val (.int p4), .val (.int p5), .val (.int v2_0), .val (.int v4_0), .val (.int (((p5.toUInt32 >>> ((2 : Int32) &&& 31).toUInt32).toInt32) &&& (3 : Int32))), .val (.ref b6), .val (.ref b39), .val (.int (0 : Int32))] [(.int v138_0)])) t → Steps p.tables e below (s₁.setTop (entryFrame m #[(.int p1), (.int p2), (.int p3), (.int p4), (.int p5)] maxLocals)) t := by
            refine ⟨_, rfl, ?_⟩
            intro t kt
            refine pre137 t ?_
            show Steps p.tables e below (T136.setTop (mkF m 123 #[.val (.int p1), .val (.int p2), .val (.int p3), .val (.int p4), .val (.int p5), .val (.int v2_0), .val (.int v4_0), .val (.int (((p5.toUInt32 >>> ((2 : Int32) &&& 31).toUInt32).toInt32) &&& (3 : Int32))), .val (.ref b6), .val (.ref b39), .val (.int (0 : Int32))] [(.int (0 : Int32)), (.int (own_eq2 (own_str v2_0) (own_str p1) (own_str v4_0) (own_str p2)))])) _
            by_cases hc123 : (own_eq2 (own_str v2_0) (own_str p1) (own_str v4_0) (own_str p2)) = (0 : Int32)
            · (try simp only [if_pos hc123] at kt)
              refine XS.icmpNo X136.here hx rfl (hb hby at_123) rfl (teq hc123).2 ?_
              show Steps p.tables e below (T136.setTop (mkF m 126 #[.val (.int p1), .val (.int p2), .val (.int p3), .val (.int p4), .val (.int p5), .val (.int v2_0), .val (.int v4_0), .val (.int (((p5.toUInt32 >>> ((2 : Int32) &&& 31).toUInt32).toInt32) &&& (3 : Int32))), .val (.ref b6), .val (.ref b39), .val (.int (0 : Int32))] [])) _
              refine XS.iconst X136.here hx rfl (hb hby at_126) ?_
              show Steps p.tables e below (T136.setTop (mkF m 127 #[.val (.int p1), .val (.int p2), .val (.int p3), .val (.int p4), .val (.int p5), .val (.int v2_0), .val (.int v4_0), .val (.int (((p5.toUInt32 >>> ((2 : Int32) &&& 31).toUInt32).toInt32) &&& (3 : Int32))), .val (.ref b6), .val (.ref b39), .val (.int (0 : Int32))] [(.int (1 : Int32))])) _
              refine XS.goto X136.here hx rfl (pc0 := 127) (pc' := 131) rfl (hb hby at_127) (by decide) (by decide) ?_
              exact kt
            · (try simp only [if_neg hc123] at kt)
              refine XS.icmpYes X136.here hx rfl (pc0 := 123) (pc' := 130) rfl (hb hby at_123) rfl (feq hc123).2 (by decide) (by decide) ?_
              show Steps p.tables e below (T136.setTop (mkF m 130 #[.val (.int p1), .val (.int p2), .val (.int p3), .val (.int p4), .val (.int p5), .val (.int v2_0), .val (.int v4_0), .val (.int (((p5.toUInt32 >>> ((2 : Int32) &&& 31).toUInt32).toInt32) &&& (3 : Int32))), .val (.ref b6), .val (.ref b39), .val (.int (0 : Int32))] [])) _
              refine XS.iconst X136.here hx rfl (hb hby at_130) ?_
              exact kt
          have hfin : v138_0 = 1 := by
            rw [hv138_0, own_eqc, own_eqv]; simp [hc83, hc92]
          obtain ⟨fs, hr, hrun, hended, hEnd⟩ := X136.leaveW (s := s) (vm₁ := T90.vm) hS90 (by rw [e136]; exact (Nat.le_refl T90.heap.size)) (v := some (.int (1 : Int32))) (fun h => by rw [Bd.returns] at h; cases h)
          refine ⟨_, _, pre138 _ ?_, hrun, hended, _, _, rfl, ?_, hEnd.1, hEnd.2.1, hEnd.2.2.1, hEnd.2.2.2.mono (by decide) (by decide)⟩
          · show Steps p.tables e below (T136.setTop (mkF m 131 #[.val (.int p1), .val (.int p2), .val (.int p3), .val (.int p4), .val (.int p5), .val (.int v2_0), .val (.int v4_0), .val (.int (((p5.toUInt32 >>> ((2 : Int32) &&& 31).toUInt32).toInt32) &&& (3 : Int32))), .val (.ref b6), .val (.ref b39), .val (.int (0 : Int32))] [(.int v138_0)])) _
            rw [hfin]
            exact retN X136 hx (t := .boolean) Bd.returns (by simp) (hb hby at_131) hr
          · show Q0 n0 _ T136.heap _
            rw [e136]
            exact ⟨rfl, N136⟩
        · have pre139 : ∀ t, Steps p.tables e below (T132.setTop (mkF m 130 #[.val (.int p1), .val (.int p2), .val (.int p3), .val (.int p4), .val (.int p5), .val (.int v2_0), .val (.int v4_0), .val (.int (((p5.toUInt32 >>> ((2 : Int32) &&& 31).toUInt32).toInt32) &&& (3 : Int32))), .val (.ref b6), .val (.ref b39), .val (.int (0 : Int32))] [])) t → Steps p.tables e below (s₁.setTop (entryFrame m #[(.int p1), (.int p2), (.int p3), (.int p4), (.int p5)] maxLocals)) t := by
            intro t kt
            refine pre133 t ?_
            show Steps p.tables e below (T132.setTop (mkF m 111 #[.val (.int p1), .val (.int p2), .val (.int p3), .val (.int p4), .val (.int p5), .val (.int v2_0), .val (.int v4_0), .val (.int (((p5.toUInt32 >>> ((2 : Int32) &&& 31).toUInt32).toInt32) &&& (3 : Int32))), .val (.ref b6), .val (.ref b39), .val (.int (0 : Int32))] [(.int (0 : Int32)), (.int (own_eq2 (own_str p1) (own_str v2_0) (own_str p2) (own_str v4_0)))])) _
            refine XS.icmpYes X132.here hx rfl (pc0 := 111) (pc' := 130) rfl (hb hby at_111) rfl (feq hc111).2 (by decide) (by decide) ?_
            exact kt
          have pre140 : ∀ t, Steps p.tables e below (T132.setTop (mkF m 131 #[.val (.int p1), .val (.int p2), .val (.int p3), .val (.int p4), .val (.int p5), .val (.int v2_0), .val (.int v4_0), .val (.int (((p5.toUInt32 >>> ((2 : Int32) &&& 31).toUInt32).toInt32) &&& (3 : Int32))), .val (.ref b6), .val (.ref b39), .val (.int (0 : Int32))] [(.int (0 : Int32))])) t → Steps p.tables e below (s₁.setTop (entryFrame m #[(.int p1), (.int p2), (.int p3), (.int p4), (.int p5)] maxLocals)) t := by
            intro t kt
            refine pre139 t ?_
            show Steps p.tables e below (T132.setTop (mkF m 130 #[.val (.int p1), .val (.int p2), .val (.int p3), .val (.int p4), .val (.int p5), .val (.int v2_0), .val (.int v4_0), .val (.int (((p5.toUInt32 >>> ((2 : Int32) &&& 31).toUInt32).toInt32) &&& (3 : Int32))), .val (.ref b6), .val (.ref b39), .val (.int (0 : Int32))] [])) _
            refine XS.iconst X132.here hx rfl (hb hby at_130) ?_
            exact kt
          exfalso
          exact hc111 (by rw [own_eqv]; simp [hc83, hc92])
      · have pre141 : ∀ t, Steps p.tables e below (T129.setTop (mkF m 95 #[.val (.int p1), .val (.int p2), .val (.int p3), .val (.int p4), .val (.int p5), .val (.int v2_0), .val (.int v4_0), .val (.int (((p5.toUInt32 >>> ((2 : Int32) &&& 31).toUInt32).toInt32) &&& (3 : Int32))), .val (.ref b6), .val (.ref b39), .unset] [])) t → Steps p.tables e below (s₁.setTop (entryFrame m #[(.int p1), (.int p2), (.int p3), (.int p4), (.int p5)] maxLocals)) t := by
          intro t kt
          refine pre129 t ?_
          show Steps p.tables e below (T129.setTop (mkF m 92 #[.val (.int p1), .val (.int p2), .val (.int p3), .val (.int p4), .val (.int p5), .val (.int v2_0), .val (.int v4_0), .val (.int (((p5.toUInt32 >>> ((2 : Int32) &&& 31).toUInt32).toInt32) &&& (3 : Int32))), .val (.ref b6), .val (.ref b39), .unset] [(.int (own_same p2 v4_0))])) _
          refine XS.ifNo X129.here hx rfl (hb hby at_92) rfl ((if0 _ _).trans (feq hc92).1) ?_
          exact kt
        have pre142 : ∀ t, Steps p.tables e below (T129.setTop (mkF m 106 #[.val (.int p1), .val (.int p2), .val (.int p3), .val (.int p4), .val (.int p5), .val (.int v2_0), .val (.int v4_0), .val (.int (((p5.toUInt32 >>> ((2 : Int32) &&& 31).toUInt32).toInt32) &&& (3 : Int32))), .val (.ref b6), .val (.ref b39), .val (.int (1 : Int32))] [(.ref b39), (.ref b6)])) t → Steps p.tables e below (s₁.setTop (entryFrame m #[(.int p1), (.int p2), (.int p3), (.int p4), (.int p5)] maxLocals)) t := by
          intro t kt
          refine pre141 t ?_
          show Steps p.tables e below (T129.setTop (mkF m 95 #[.val (.int p1), .val (.int p2), .val (.int p3), .val (.int p4), .val (.int p5), .val (.int v2_0), .val (.int v4_0), .val (.int (((p5.toUInt32 >>> ((2 : Int32) &&& 31).toUInt32).toInt32) &&& (3 : Int32))), .val (.ref b6), .val (.ref b39), .unset] [])) _
          refine XS.iconst X129.here hx rfl (hb hby at_95) ?_
          show Steps p.tables e below (T129.setTop (mkF m 96 #[.val (.int p1), .val (.int p2), .val (.int p3), .val (.int p4), .val (.int p5), .val (.int v2_0), .val (.int v4_0), .val (.int (((p5.toUInt32 >>> ((2 : Int32) &&& 31).toUInt32).toInt32) &&& (3 : Int32))), .val (.ref b6), .val (.ref b39), .unset] [(.int (1 : Int32))])) _
          refine XS.goto X129.here hx rfl (pc0 := 96) (pc' := 100) rfl (hb hby at_96) (by decide) (by decide) ?_
          show Steps p.tables e below (T129.setTop (mkF m 100 #[.val (.int p1), .val (.int p2), .val (.int p3), .val (.int p4), .val (.int p5), .val (.int v2_0), .val (.int v4_0), .val (.int (((p5.toUInt32 >>> ((2 : Int32) &&& 31).toUInt32).toInt32) &&& (3 : Int32))), .val (.ref b6), .val (.ref b39), .unset] [(.int (1 : Int32))])) _
          refine XS.istore X129.here hx rfl (hb hby at_100) rfl (l' := #[.val (.int p1), .val (.int p2), .val (.int p3), .val (.int p4), .val (.int p5), .val (.int v2_0), .val (.int v4_0), .val (.int (((p5.toUInt32 >>> ((2 : Int32) &&& 31).toUInt32).toInt32) &&& (3 : Int32))), .val (.ref b6), .val (.ref b39), .val (.int (1 : Int32))]) rfl ?_
          show Steps p.tables e below (T129.setTop (mkF m 102 #[.val (.int p1), .val (.int p2), .val (.int p3), .val (.int p4), .val (.int p5), .val (.int v2_0), .val (.int v4_0), .val (.int (((p5.toUInt32 >>> ((2 : Int32) &&& 31).toUInt32).toInt32) &&& (3 : Int32))), .val (.ref b6), .val (.ref b39), .val (.int (1 : Int32))] [])) _
          refine XS.aload X129.here hx rfl (hb hby at_102) rfl rfl ?_
          show Steps p.tables e below (T129.setTop (mkF m 104 #[.val (.int p1), .val (.int p2), .val (.int p3), .val (.int p4), .val (.int p5), .val (.int v2_0), .val (.int v4_0), .val (.int (((p5.toUInt32 >>> ((2 : Int32) &&& 31).toUInt32).toInt32) &&& (3 : Int32))), .val (.ref b6), .val (.ref b39), .val (.int (1 : Int32))] [(.ref b6)])) _
          refine XS.aload X129.here hx rfl (hb hby at_104) rfl rfl ?_
          exact kt
        obtain ⟨cq143, kq143, q143a, q143b, q143c⟩ := isOf hZ e129 E_b6_24_92
        obtain ⟨_, _, ⟨T143, L143, k143, n143⟩, -, X143, ⟨Lc143, hQ143, l143, y143, z143⟩, st143⟩ := X129.virtualBack hx (y := (⟨"com/example/vertumnus/vertumnus/TableName", "equals", "(Ljava/lang/Object;)Z"⟩ : MethodName)) (z := (⟨"com/example/vertumnus/vertumnus/TableName", "equals", "(Ljava/lang/Object;)Z"⟩ : MethodName)) hown (mvT hZ (hw _ (List.mem_of_getElem? (i := 64) rfl))) (mvT hZ (hw _ (List.mem_of_getElem? (i := 65) rfl))) (notFace_of_selects (args := #[]) (mvT hZ (hw _ (List.mem_of_getElem? (i := 67) rfl)))) (mvT hZ (hw _ (List.mem_of_getElem? (i := 67) rfl))) (mvT hZ (hw _ (List.mem_of_getElem? (i := 66) rfl))) (by decide) (backOf (W := 0) (rm13t l Z a0 hw [] b6 b39 cz az_9 tz_9 kz_9 (own_f2 p1) (own_str p1) az_15 tz_15 kz_15 (own_f2 p2) (own_str p2) az_53 tz_53 kz_53 (own_f2 v2_0) (own_str v2_0) az_70 tz_70 kz_70 (own_f2 v4_0) (own_str v4_0) T90.heap n0 Z90 E_b6_24_92 E_b39_90 SCS_91 F_schema_b6_24_101 E_az_9_9_93 F_value_az_9_9_94 F_coder_az_9_9_95 V_tz_9_9_96 F_name_b6_24_102 E_az_15_15_97 F_value_az_15_15_98 F_coder_az_15_15_99 V_tz_15_15_100 F_schema_b39_90 E_az_53_53_106 F_value_az_53_53_107 F_coder_az_53_53_108 V_tz_53_53_109 F_name_b39_90 E_az_70_70_110 F_value_az_70_70_111 F_coder_az_70_70_112 V_tz_70_70_113 (hCS) (own_lenS p1) (own_chS p1) (own_lenS p2) (own_chS p2) (own_lenS v2_0) (own_chS v2_0) (own_lenS v4_0) (own_chS v4_0)) hZ (hw _ (List.mem_of_getElem? (i := 68) rfl)) (hw _ (List.mem_of_getElem? (i := 2) rfl)) (by decide) (by decide)) q143a q143c (g := (mkF m 106 #[.val (.int p1), .val (.int p2), .val (.int p3), .val (.int p4), .val (.int p5), .val (.int v2_0), .val (.int v4_0), .val (.int (((p5.toUInt32 >>> ((2 : Int32) &&& 31).toUInt32).toInt32) &&& (3 : Int32))), .val (.ref b6), .val (.ref b39), .val (.int (1 : Int32))] [(.ref b39), (.ref b6)])) rfl (by rw [hml]; rfl) (Steps.refl _) (argsL := [(.ref b39)]) (rest := []) (lenOf pd_5 rfl) rfl (by show 2 * 0 + _ ≤ _; exact Nat.le_of_eq rfl) (hb hby at_106) (fun _ _ => ⟨rfl, e129, (by decide : 34 + 0 ≤ _), (by decide : 148 + 0 ≤ _)⟩)
        dsimp only [Pt.U, Pt.locs, Pt.cells, Pt.slots] at X143 l143 y143 z143 st143 hQ143
        subst l143 y143 z143
        obtain ⟨rfl, N143q, e143⟩ := hQ143
        have N143 := Fr.app N129 N143q
        have pre143 : ∀ t, Steps p.tables e below (T143.setTop (mkF m 109 #[.val (.int p1), .val (.int p2), .val (.int p3), .val (.int p4), .val (.int p5), .val (.int v2_0), .val (.int v4_0), .val (.int (((p5.toUInt32 >>> ((2 : Int32) &&& 31).toUInt32).toInt32) &&& (3 : Int32))), .val (.ref b6), .val (.ref b39), .val (.int (1 : Int32))] [(.int (own_eq2 (own_str p1) (own_str v2_0) (own_str p2) (own_str v4_0)))])) t → Steps p.tables e below (s₁.setTop (entryFrame m #[(.int p1), (.int p2), (.int p3), (.int p4), (.int p5)] maxLocals)) t := fun t kt => pre142 t (st143.trans kt)
        have pre144 : ∀ t, Steps p.tables e below (T143.setTop (mkF m 111 #[.val (.int p1), .val (.int p2), .val (.int p3), .val (.int p4), .val (.int p5), .val (.int v2_0), .val (.int v4_0), .val (.int (((p5.toUInt32 >>> ((2 : Int32) &&& 31).toUInt32).toInt32) &&& (3 : Int32))), .val (.ref b6), .val (.ref b39), .val (.int (1 : Int32))] [(.int (1 : Int32)), (.int (own_eq2 (own_str p1) (own_str v2_0) (own_str p2) (own_str v4_0)))])) t → Steps p.tables e below (s₁.setTop (entryFrame m #[(.int p1), (.int p2), (.int p3), (.int p4), (.int p5)] maxLocals)) t := by
          intro t kt
          refine pre143 t ?_
          show Steps p.tables e below (T143.setTop (mkF m 109 #[.val (.int p1), .val (.int p2), .val (.int p3), .val (.int p4), .val (.int p5), .val (.int v2_0), .val (.int v4_0), .val (.int (((p5.toUInt32 >>> ((2 : Int32) &&& 31).toUInt32).toInt32) &&& (3 : Int32))), .val (.ref b6), .val (.ref b39), .val (.int (1 : Int32))] [(.int (own_eq2 (own_str p1) (own_str v2_0) (own_str p2) (own_str v4_0)))])) _
          refine XS.iload X143.here hx rfl (hb hby at_109) rfl ?_
          exact kt
        by_cases hc111 : (own_eq2 (own_str p1) (own_str v2_0) (own_str p2) (own_str v4_0)) = (1 : Int32)
        · have pre145 : ∀ t, Steps p.tables e below (T143.setTop (mkF m 114 #[.val (.int p1), .val (.int p2), .val (.int p3), .val (.int p4), .val (.int p5), .val (.int v2_0), .val (.int v4_0), .val (.int (((p5.toUInt32 >>> ((2 : Int32) &&& 31).toUInt32).toInt32) &&& (3 : Int32))), .val (.ref b6), .val (.ref b39), .val (.int (1 : Int32))] [])) t → Steps p.tables e below (s₁.setTop (entryFrame m #[(.int p1), (.int p2), (.int p3), (.int p4), (.int p5)] maxLocals)) t := by
            intro t kt
            refine pre144 t ?_
            show Steps p.tables e below (T143.setTop (mkF m 111 #[.val (.int p1), .val (.int p2), .val (.int p3), .val (.int p4), .val (.int p5), .val (.int v2_0), .val (.int v4_0), .val (.int (((p5.toUInt32 >>> ((2 : Int32) &&& 31).toUInt32).toInt32) &&& (3 : Int32))), .val (.ref b6), .val (.ref b39), .val (.int (1 : Int32))] [(.int (1 : Int32)), (.int (own_eq2 (own_str p1) (own_str v2_0) (own_str p2) (own_str v4_0)))])) _
            refine XS.icmpNo X143.here hx rfl (hb hby at_111) rfl (teq hc111).2 ?_
            exact kt
          have pre146 : ∀ t, Steps p.tables e below (T143.setTop (mkF m 118 #[.val (.int p1), .val (.int p2), .val (.int p3), .val (.int p4), .val (.int p5), .val (.int v2_0), .val (.int v4_0), .val (.int (((p5.toUInt32 >>> ((2 : Int32) &&& 31).toUInt32).toInt32) &&& (3 : Int32))), .val (.ref b6), .val (.ref b39), .val (.int (1 : Int32))] [(.ref b6), (.ref b39)])) t → Steps p.tables e below (s₁.setTop (entryFrame m #[(.int p1), (.int p2), (.int p3), (.int p4), (.int p5)] maxLocals)) t := by
            intro t kt
            refine pre145 t ?_
            show Steps p.tables e below (T143.setTop (mkF m 114 #[.val (.int p1), .val (.int p2), .val (.int p3), .val (.int p4), .val (.int p5), .val (.int v2_0), .val (.int v4_0), .val (.int (((p5.toUInt32 >>> ((2 : Int32) &&& 31).toUInt32).toInt32) &&& (3 : Int32))), .val (.ref b6), .val (.ref b39), .val (.int (1 : Int32))] [])) _
            refine XS.aload X143.here hx rfl (hb hby at_114) rfl rfl ?_
            show Steps p.tables e below (T143.setTop (mkF m 116 #[.val (.int p1), .val (.int p2), .val (.int p3), .val (.int p4), .val (.int p5), .val (.int v2_0), .val (.int v4_0), .val (.int (((p5.toUInt32 >>> ((2 : Int32) &&& 31).toUInt32).toInt32) &&& (3 : Int32))), .val (.ref b6), .val (.ref b39), .val (.int (1 : Int32))] [(.ref b39)])) _
            refine XS.aload X143.here hx rfl (hb hby at_116) rfl rfl ?_
            exact kt
          obtain ⟨cq147, kq147, q147a, q147b, q147c⟩ := isOf hZ e143 E_b39_90
          obtain ⟨_, _, ⟨T147, L147, k147, n147⟩, -, X147, ⟨Lc147, hQ147, l147, y147, z147⟩, st147⟩ := X143.virtualBack hx (y := (⟨"com/example/vertumnus/vertumnus/TableName", "equals", "(Ljava/lang/Object;)Z"⟩ : MethodName)) (z := (⟨"com/example/vertumnus/vertumnus/TableName", "equals", "(Ljava/lang/Object;)Z"⟩ : MethodName)) hown (mvT hZ (hw _ (List.mem_of_getElem? (i := 64) rfl))) (mvT hZ (hw _ (List.mem_of_getElem? (i := 65) rfl))) (notFace_of_selects (args := #[]) (mvT hZ (hw _ (List.mem_of_getElem? (i := 67) rfl)))) (mvT hZ (hw _ (List.mem_of_getElem? (i := 67) rfl))) (mvT hZ (hw _ (List.mem_of_getElem? (i := 66) rfl))) (by decide) (backOf (W := 0) (rm13t l Z a0 hw [] b39 b6 cz az_53 tz_53 kz_53 (own_f2 v2_0) (own_str v2_0) az_70 tz_70 kz_70 (own_f2 v4_0) (own_str v4_0) az_9 tz_9 kz_9 (own_f2 p1) (own_str p1) az_15 tz_15 kz_15 (own_f2 p2) (own_str p2) T90.heap n0 Z90 E_b39_90 E_b6_24_92 SCS_91 F_schema_b39_90 E_az_53_53_106 F_value_az_53_53_107 F_coder_az_53_53_108 V_tz_53_53_109 F_name_b39_90 E_az_70_70_110 F_value_az_70_70_111 F_coder_az_70_70_112 V_tz_70_70_113 F_schema_b6_24_101 E_az_9_9_93 F_value_az_9_9_94 F_coder_az_9_9_95 V_tz_9_9_96 F_name_b6_24_102 E_az_15_15_97 F_value_az_15_15_98 F_coder_az_15_15_99 V_tz_15_15_100 (hCS) (own_lenS v2_0) (own_chS v2_0) (own_lenS v4_0) (own_chS v4_0) (own_lenS p1) (own_chS p1) (own_lenS p2) (own_chS p2)) hZ (hw _ (List.mem_of_getElem? (i := 68) rfl)) (hw _ (List.mem_of_getElem? (i := 2) rfl)) (by decide) (by decide)) q147a q147c (g := (mkF m 118 #[.val (.int p1), .val (.int p2), .val (.int p3), .val (.int p4), .val (.int p5), .val (.int v2_0), .val (.int v4_0), .val (.int (((p5.toUInt32 >>> ((2 : Int32) &&& 31).toUInt32).toInt32) &&& (3 : Int32))), .val (.ref b6), .val (.ref b39), .val (.int (1 : Int32))] [(.ref b6), (.ref b39)])) rfl (by rw [hml]; rfl) (Steps.refl _) (argsL := [(.ref b6)]) (rest := []) (lenOf pd_5 rfl) rfl (by show 2 * 0 + _ ≤ _; exact Nat.le_of_eq rfl) (hb hby at_118) (fun _ _ => ⟨rfl, e143, (by decide : 34 + 0 ≤ _), (by decide : 148 + 0 ≤ _)⟩)
          dsimp only [Pt.U, Pt.locs, Pt.cells, Pt.slots] at X147 l147 y147 z147 st147 hQ147
          subst l147 y147 z147
          obtain ⟨rfl, N147q, e147⟩ := hQ147
          have N147 := Fr.app N143 N147q
          have pre147 : ∀ t, Steps p.tables e below (T147.setTop (mkF m 121 #[.val (.int p1), .val (.int p2), .val (.int p3), .val (.int p4), .val (.int p5), .val (.int v2_0), .val (.int v4_0), .val (.int (((p5.toUInt32 >>> ((2 : Int32) &&& 31).toUInt32).toInt32) &&& (3 : Int32))), .val (.ref b6), .val (.ref b39), .val (.int (1 : Int32))] [(.int (own_eq2 (own_str v2_0) (own_str p1) (own_str v4_0) (own_str p2)))])) t → Steps p.tables e below (s₁.setTop (entryFrame m #[(.int p1), (.int p2), (.int p3), (.int p4), (.int p5)] maxLocals)) t := fun t kt => pre146 t (st147.trans kt)
          have pre148 : ∀ t, Steps p.tables e below (T147.setTop (mkF m 123 #[.val (.int p1), .val (.int p2), .val (.int p3), .val (.int p4), .val (.int p5), .val (.int v2_0), .val (.int v4_0), .val (.int (((p5.toUInt32 >>> ((2 : Int32) &&& 31).toUInt32).toInt32) &&& (3 : Int32))), .val (.ref b6), .val (.ref b39), .val (.int (1 : Int32))] [(.int (1 : Int32)), (.int (own_eq2 (own_str v2_0) (own_str p1) (own_str v4_0) (own_str p2)))])) t → Steps p.tables e below (s₁.setTop (entryFrame m #[(.int p1), (.int p2), (.int p3), (.int p4), (.int p5)] maxLocals)) t := by
            intro t kt
            refine pre147 t ?_
            show Steps p.tables e below (T147.setTop (mkF m 121 #[.val (.int p1), .val (.int p2), .val (.int p3), .val (.int p4), .val (.int p5), .val (.int v2_0), .val (.int v4_0), .val (.int (((p5.toUInt32 >>> ((2 : Int32) &&& 31).toUInt32).toInt32) &&& (3 : Int32))), .val (.ref b6), .val (.ref b39), .val (.int (1 : Int32))] [(.int (own_eq2 (own_str v2_0) (own_str p1) (own_str v4_0) (own_str p2)))])) _
            refine XS.iload X147.here hx rfl (hb hby at_121) rfl ?_
            exact kt
          obtain ⟨v149_0, hv149_0, pre149⟩ : ∃ (v149_0 : Int32), v149_0 = (if (own_eq2 (own_str v2_0) (own_str p1) (own_str v4_0) (own_str p2)) = (1 : Int32) then (1 : Int32) else (0 : Int32)) ∧ ∀ t, Steps p.tables e below (T147.setTop (mkF m 131 #[.val (.int p1), .val (.int p2), .val (.int p3), .val (.int p4), .val (.int p5), .val (.int v2_0), .val (.int v4_0), .val (.int (((p5.toUInt32 >>> ((2 : Int32) &&& 31).toUInt32).toInt32) &&& (3 : Int32))), .val (.ref b6), .val (.ref b39), .val (.int (1 : Int32))] [(.int v149_0)])) t → Steps p.tables e below (s₁.setTop (entryFrame m #[(.int p1), (.int p2), (.int p3), (.int p4), (.int p5)] maxLocals)) t := by
            refine ⟨_, rfl, ?_⟩
            intro t kt
            refine pre148 t ?_
            show Steps p.tables e below (T147.setTop (mkF m 123 #[.val (.int p1), .val (.int p2), .val (.int p3), .val (.int p4), .val (.int p5), .val (.int v2_0), .val (.int v4_0), .val (.int (((p5.toUInt32 >>> ((2 : Int32) &&& 31).toUInt32).toInt32) &&& (3 : Int32))), .val (.ref b6), .val (.ref b39), .val (.int (1 : Int32))] [(.int (1 : Int32)), (.int (own_eq2 (own_str v2_0) (own_str p1) (own_str v4_0) (own_str p2)))])) _
            by_cases hc123 : (own_eq2 (own_str v2_0) (own_str p1) (own_str v4_0) (own_str p2)) = (1 : Int32)
            · (try simp only [if_pos hc123] at kt)
              refine XS.icmpNo X147.here hx rfl (hb hby at_123) rfl (teq hc123).2 ?_
              show Steps p.tables e below (T147.setTop (mkF m 126 #[.val (.int p1), .val (.int p2), .val (.int p3), .val (.int p4), .val (.int p5), .val (.int v2_0), .val (.int v4_0), .val (.int (((p5.toUInt32 >>> ((2 : Int32) &&& 31).toUInt32).toInt32) &&& (3 : Int32))), .val (.ref b6), .val (.ref b39), .val (.int (1 : Int32))] [])) _
              refine XS.iconst X147.here hx rfl (hb hby at_126) ?_
              show Steps p.tables e below (T147.setTop (mkF m 127 #[.val (.int p1), .val (.int p2), .val (.int p3), .val (.int p4), .val (.int p5), .val (.int v2_0), .val (.int v4_0), .val (.int (((p5.toUInt32 >>> ((2 : Int32) &&& 31).toUInt32).toInt32) &&& (3 : Int32))), .val (.ref b6), .val (.ref b39), .val (.int (1 : Int32))] [(.int (1 : Int32))])) _
              refine XS.goto X147.here hx rfl (pc0 := 127) (pc' := 131) rfl (hb hby at_127) (by decide) (by decide) ?_
              exact kt
            · (try simp only [if_neg hc123] at kt)
              refine XS.icmpYes X147.here hx rfl (pc0 := 123) (pc' := 130) rfl (hb hby at_123) rfl (feq hc123).2 (by decide) (by decide) ?_
              show Steps p.tables e below (T147.setTop (mkF m 130 #[.val (.int p1), .val (.int p2), .val (.int p3), .val (.int p4), .val (.int p5), .val (.int v2_0), .val (.int v4_0), .val (.int (((p5.toUInt32 >>> ((2 : Int32) &&& 31).toUInt32).toInt32) &&& (3 : Int32))), .val (.ref b6), .val (.ref b39), .val (.int (1 : Int32))] [])) _
              refine XS.iconst X147.here hx rfl (hb hby at_130) ?_
              exact kt
          have hfin : v149_0 = 1 := by
            rw [hv149_0, own_eqc, own_eqv]; simp [hc83, hc92]
          obtain ⟨fs, hr, hrun, hended, hEnd⟩ := X147.leaveW (s := s) (vm₁ := T90.vm) hS90 (by rw [e147]; exact (Nat.le_refl T90.heap.size)) (v := some (.int (1 : Int32))) (fun h => by rw [Bd.returns] at h; cases h)
          refine ⟨_, _, pre149 _ ?_, hrun, hended, _, _, rfl, ?_, hEnd.1, hEnd.2.1, hEnd.2.2.1, hEnd.2.2.2.mono (by decide) (by decide)⟩
          · show Steps p.tables e below (T147.setTop (mkF m 131 #[.val (.int p1), .val (.int p2), .val (.int p3), .val (.int p4), .val (.int p5), .val (.int v2_0), .val (.int v4_0), .val (.int (((p5.toUInt32 >>> ((2 : Int32) &&& 31).toUInt32).toInt32) &&& (3 : Int32))), .val (.ref b6), .val (.ref b39), .val (.int (1 : Int32))] [(.int v149_0)])) _
            rw [hfin]
            exact retN X147 hx (t := .boolean) Bd.returns (by simp) (hb hby at_131) hr
          · show Q0 n0 _ T147.heap _
            rw [e147]
            exact ⟨rfl, N147⟩
        · have pre150 : ∀ t, Steps p.tables e below (T143.setTop (mkF m 130 #[.val (.int p1), .val (.int p2), .val (.int p3), .val (.int p4), .val (.int p5), .val (.int v2_0), .val (.int v4_0), .val (.int (((p5.toUInt32 >>> ((2 : Int32) &&& 31).toUInt32).toInt32) &&& (3 : Int32))), .val (.ref b6), .val (.ref b39), .val (.int (1 : Int32))] [])) t → Steps p.tables e below (s₁.setTop (entryFrame m #[(.int p1), (.int p2), (.int p3), (.int p4), (.int p5)] maxLocals)) t := by
            intro t kt
            refine pre144 t ?_
            show Steps p.tables e below (T143.setTop (mkF m 111 #[.val (.int p1), .val (.int p2), .val (.int p3), .val (.int p4), .val (.int p5), .val (.int v2_0), .val (.int v4_0), .val (.int (((p5.toUInt32 >>> ((2 : Int32) &&& 31).toUInt32).toInt32) &&& (3 : Int32))), .val (.ref b6), .val (.ref b39), .val (.int (1 : Int32))] [(.int (1 : Int32)), (.int (own_eq2 (own_str p1) (own_str v2_0) (own_str p2) (own_str v4_0)))])) _
            refine XS.icmpYes X143.here hx rfl (pc0 := 111) (pc' := 130) rfl (hb hby at_111) rfl (feq hc111).2 (by decide) (by decide) ?_
            exact kt
          have pre151 : ∀ t, Steps p.tables e below (T143.setTop (mkF m 131 #[.val (.int p1), .val (.int p2), .val (.int p3), .val (.int p4), .val (.int p5), .val (.int v2_0), .val (.int v4_0), .val (.int (((p5.toUInt32 >>> ((2 : Int32) &&& 31).toUInt32).toInt32) &&& (3 : Int32))), .val (.ref b6), .val (.ref b39), .val (.int (1 : Int32))] [(.int (0 : Int32))])) t → Steps p.tables e below (s₁.setTop (entryFrame m #[(.int p1), (.int p2), (.int p3), (.int p4), (.int p5)] maxLocals)) t := by
            intro t kt
            refine pre150 t ?_
            show Steps p.tables e below (T143.setTop (mkF m 130 #[.val (.int p1), .val (.int p2), .val (.int p3), .val (.int p4), .val (.int p5), .val (.int v2_0), .val (.int v4_0), .val (.int (((p5.toUInt32 >>> ((2 : Int32) &&& 31).toUInt32).toInt32) &&& (3 : Int32))), .val (.ref b6), .val (.ref b39), .val (.int (1 : Int32))] [])) _
            refine XS.iconst X143.here hx rfl (hb hby at_130) ?_
            exact kt
          exfalso
          exact hc111 (by rw [own_eqv]; simp [hc83, hc92])
  · have pre152 : ∀ t, Steps p.tables e below (T24.setTop (mkF m 132 #[.val (.int p1), .val (.int p2), .val (.int p3), .val (.int p4), .val (.int p5), .val (.int v2_0), .val (.int v4_0), .val (.int (((p5.toUInt32 >>> ((2 : Int32) &&& 31).toUInt32).toInt32) &&& (3 : Int32))), .val (.ref b6), .unset, .unset] [])) t → Steps p.tables e below (s₁.setTop (entryFrame m #[(.int p1), (.int p2), (.int p3), (.int p4), (.int p5)] maxLocals)) t := by
      intro t kt
      refine pre37 t ?_
      show Steps p.tables e below (T24.setTop (mkF m 55 #[.val (.int p1), .val (.int p2), .val (.int p3), .val (.int p4), .val (.int p5), .val (.int v2_0), .val (.int v4_0), .val (.int (((p5.toUInt32 >>> ((2 : Int32) &&& 31).toUInt32).toInt32) &&& (3 : Int32))), .val (.ref b6), .unset, .unset] [(.int (((p5.toUInt32 >>> ((2 : Int32) &&& 31).toUInt32).toInt32) &&& (3 : Int32)))])) _
      refine XS.ifYes X24.here hx rfl (pc0 := 55) (pc' := 132) rfl (hb hby at_55) rfl ((if0 _ _).trans (feq hc55).2) (by decide) (by decide) ?_
      exact kt
    have pre153 : ∀ t, Steps p.tables e below (T24.setTop (mkF m 135 #[.val (.int p1), .val (.int p2), .val (.int p3), .val (.int p4), .val (.int p5), .val (.int v2_0), .val (.int v4_0), .val (.int (((p5.toUInt32 >>> ((2 : Int32) &&& 31).toUInt32).toInt32) &&& (3 : Int32))), .val (.ref b6), .unset, .unset] [(.int (1 : Int32)), (.int (((p5.toUInt32 >>> ((2 : Int32) &&& 31).toUInt32).toInt32) &&& (3 : Int32)))])) t → Steps p.tables e below (s₁.setTop (entryFrame m #[(.int p1), (.int p2), (.int p3), (.int p4), (.int p5)] maxLocals)) t := by
      intro t kt
      refine pre152 t ?_
      show Steps p.tables e below (T24.setTop (mkF m 132 #[.val (.int p1), .val (.int p2), .val (.int p3), .val (.int p4), .val (.int p5), .val (.int v2_0), .val (.int v4_0), .val (.int (((p5.toUInt32 >>> ((2 : Int32) &&& 31).toUInt32).toInt32) &&& (3 : Int32))), .val (.ref b6), .unset, .unset] [])) _
      refine XS.iload X24.here hx rfl (hb hby at_132) rfl ?_
      show Steps p.tables e below (T24.setTop (mkF m 134 #[.val (.int p1), .val (.int p2), .val (.int p3), .val (.int p4), .val (.int p5), .val (.int v2_0), .val (.int v4_0), .val (.int (((p5.toUInt32 >>> ((2 : Int32) &&& 31).toUInt32).toInt32) &&& (3 : Int32))), .val (.ref b6), .unset, .unset] [(.int (((p5.toUInt32 >>> ((2 : Int32) &&& 31).toUInt32).toInt32) &&& (3 : Int32)))])) _
      refine XS.iconst X24.here hx rfl (hb hby at_134) ?_
      exact kt
    by_cases hc135 : (((p5.toUInt32 >>> ((2 : Int32) &&& 31).toUInt32).toInt32) &&& (3 : Int32)) = (1 : Int32)
    · have pre154 : ∀ t, Steps p.tables e below (T24.setTop (mkF m 138 #[.val (.int p1), .val (.int p2), .val (.int p3), .val (.int p4), .val (.int p5), .val (.int v2_0), .val (.int v4_0), .val (.int (((p5.toUInt32 >>> ((2 : Int32) &&& 31).toUInt32).toInt32) &&& (3 : Int32))), .val (.ref b6), .unset, .unset] [])) t → Steps p.tables e below (s₁.setTop (entryFrame m #[(.int p1), (.int p2), (.int p3), (.int p4), (.int p5)] maxLocals)) t := by
        intro t kt
        refine pre153 t ?_
        show Steps p.tables e below (T24.setTop (mkF m 135 #[.val (.int p1), .val (.int p2), .val (.int p3), .val (.int p4), .val (.int p5), .val (.int v2_0), .val (.int v4_0), .val (.int (((p5.toUInt32 >>> ((2 : Int32) &&& 31).toUInt32).toInt32) &&& (3 : Int32))), .val (.ref b6), .unset, .unset] [(.int (1 : Int32)), (.int (((p5.toUInt32 >>> ((2 : Int32) &&& 31).toUInt32).toInt32) &&& (3 : Int32)))])) _
        refine XS.icmpNo X24.here hx rfl (hb hby at_135) rfl (teq hc135).2 ?_
        exact kt
      have pre155 : ∀ t, Steps p.tables e below (T24.setTop (mkF m 139 #[.val (.int p1), .val (.int p2), .val (.int p3), .val (.int p4), .val (.int p5), .val (.int v2_0), .val (.int v4_0), .val (.int (((p5.toUInt32 >>> ((2 : Int32) &&& 31).toUInt32).toInt32) &&& (3 : Int32))), .val (.ref b6), .unset, .unset] [(.int p2)])) t → Steps p.tables e below (s₁.setTop (entryFrame m #[(.int p1), (.int p2), (.int p3), (.int p4), (.int p5)] maxLocals)) t := by
        intro t kt
        refine pre154 t ?_
        show Steps p.tables e below (T24.setTop (mkF m 138 #[.val (.int p1), .val (.int p2), .val (.int p3), .val (.int p4), .val (.int p5), .val (.int v2_0), .val (.int v4_0), .val (.int (((p5.toUInt32 >>> ((2 : Int32) &&& 31).toUInt32).toInt32) &&& (3 : Int32))), .val (.ref b6), .unset, .unset] [])) _
        refine XS.iloadN X24.here hx rfl (hb hby at_138) rfl ?_
        exact kt
      obtain ⟨_, _, ⟨T156, L156, k156, n156⟩, -, X156, hSq156, hgq156, ⟨Lc156, hQ156, l156, y156, z156, CQ156⟩, st156⟩ := callSS (s := s.setVm T24.vm) X24 hx (y := (⟨"com/example/vertumnus/vertumnus/TableNameEqualsPinLaw", "mk", "(I)Ljava/lang/String;"⟩ : MethodName)) hown (mvT hZ (hw _ (List.mem_of_getElem? (i := 3) rfl))) (mvT hZ (hw _ (List.mem_of_getElem? (i := 4) rfl))) (mvT hZ (hw _ (List.mem_of_getElem? (i := 5) rfl))) (mvT hZ (hw _ (List.mem_of_getElem? (i := 6) rfl))) (by decide) (backOfSH (s := s) (vm0 := T24.vm) (W := 0) (rm1 l Z a0 hw [] p2 cz T24.heap n0 Z24 SCS_25 (hCS)) hZ (hw _ (List.mem_of_getElem? (i := 6) rfl)) (hw _ (List.mem_of_getElem? (i := 5) rfl)) (by decide) (by decide) hEL CR24.1) (g := (mkF m 139 #[.val (.int p1), .val (.int p2), .val (.int p3), .val (.int p4), .val (.int p5), .val (.int v2_0), .val (.int v4_0), .val (.int (((p5.toUInt32 >>> ((2 : Int32) &&& 31).toUInt32).toInt32) &&& (3 : Int32))), .val (.ref b6), .unset, .unset] [(.int p2)])) rfl (by rw [hml]; rfl) (argsL := [(.int p2)]) (rest := []) (lenOf pd_6 rfl) rfl (by show 2 * 0 + _ ≤ _; exact Nat.le_of_eq rfl) (hb hby at_139) (fun _ _ => ⟨rfl, rfl, (by decide : 17 + 6 ≤ _), (by decide : 74 + 12 ≤ _)⟩)
      dsimp only [Pt.U, Pt.locs, Pt.cells, Pt.slots] at X156 l156 y156 z156 st156 hQ156
      subst l156 y156 z156
      have hS156 := foldS hS24 (Nat.le_refl T24.heap.size) hSq156 hgq156
      have hown := show T156.vm.findClass _ = some m.cls from (by rw [hSq156.1.alike.findClass]; exact hown)
      have hZ := State.Warmed39.trans (t := s.setVm T24.vm) hZ hSq156.1
      have CR156 := CR24.trans CQ156
      obtain ⟨az_156, tz_156, kz_156, rfl, N156q, KC156, P156_0, P156_1, P156_2, P156_3, R156_0, R156_1⟩ := hQ156
      have N156 := Fr.app N24 N156q
      have Z156 : n0 ≤ T156.heap.size := Nat.le_trans Z24 KC156.1
      have mo156_0 := Nat.le_trans (Nat.le_refl T24.heap.size) KC156.1
      have K156 : Keep h0 T156.heap [] := K24.trans KC156 all0
      have SCS_157 := own_stak SCS_25 KC156 ns0
      have E_b6_24_158 := E_b6_24.keep KC156
      have E_az_9_9_159 := E_az_9_9_29.keep KC156
      have F_value_az_9_9_160 := F_value_az_9_9_30.keep KC156 nin0
      have F_coder_az_9_9_161 := F_coder_az_9_9_31.keep KC156 nin0
      have V_tz_9_9_162 := V_tz_9_9_32.keep KC156 nin0
      have E_az_15_15_163 := E_az_15_15_33.keep KC156
      have F_value_az_15_15_164 := F_value_az_15_15_34.keep KC156 nin0
      have F_coder_az_15_15_165 := F_coder_az_15_15_35.keep KC156 nin0
      have V_tz_15_15_166 := V_tz_15_15_36.keep KC156 nin0
      have F_schema_b6_24_167 := F_schema_b6_24.keep KC156 nin0
      have F_name_b6_24_168 := F_name_b6_24.keep KC156 nin0
      have ne_b6_az_156 : b6 ≠ az_156 := Nat.ne_of_lt (Nat.lt_of_lt_of_le F_name_b6_24.lt R156_1)
      have ne_az_9_az_156 : az_9 ≠ az_156 := Nat.ne_of_lt (Nat.lt_of_lt_of_le F_coder_az_9_9_31.lt R156_1)
      have ne_tz_9_az_156 : tz_9 ≠ az_156 := Nat.ne_of_lt (Nat.lt_of_lt_of_le V_tz_9_9_32.lt R156_1)
      have ne_az_15_az_156 : az_15 ≠ az_156 := Nat.ne_of_lt (Nat.lt_of_lt_of_le F_coder_az_15_15_35.lt R156_1)
      have ne_tz_15_az_156 : tz_15 ≠ az_156 := Nat.ne_of_lt (Nat.lt_of_lt_of_le V_tz_15_15_36.lt R156_1)
      have E_az_156_156 : Exa Z T156.heap az_156 "java/lang/String" := P156_0
      have F_value_az_156_156 : Fld Z T156.heap az_156 "java/lang/String" "value" "[B" (.ref tz_156) := P156_1
      have F_coder_az_156_156 : Fld Z T156.heap az_156 "java/lang/String" "coder" "B" (.int (0 : Int32)) := P156_2
      have V_tz_156_156 : Arv Z T156.heap tz_156 kz_156 .byte (own_f2 p2) (((own_str p2).map fun c => c.toInt8.toInt32).map Value.int) (.int (0 : Int32)) := P156_3
      have pre156 : ∀ t, Steps p.tables e below (T156.setTop (mkF m 142 #[.val (.int p1), .val (.int p2), .val (.int p3), .val (.int p4), .val (.int p5), .val (.int v2_0), .val (.int v4_0), .val (.int (((p5.toUInt32 >>> ((2 : Int32) &&& 31).toUInt32).toInt32) &&& (3 : Int32))), .val (.ref b6), .unset, .unset] [(.ref az_156)])) t → Steps p.tables e below (s₁.setTop (entryFrame m #[(.int p1), (.int p2), (.int p3), (.int p4), (.int p5)] maxLocals)) t := fun t kt => pre155 t (st156.trans kt)
      have pre169 : ∀ t, Steps p.tables e below (T156.setTop (mkF m 148 #[.val (.int p1), .val (.int p2), .val (.int p3), .val (.int p4), .val (.int p5), .val (.int v2_0), .val (.int v4_0), .val (.int (((p5.toUInt32 >>> ((2 : Int32) &&& 31).toUInt32).toInt32) &&& (3 : Int32))), .val (.ref b6), .val (.ref az_156), .unset] [(.ref az_156), (.ref b6)])) t → Steps p.tables e below (s₁.setTop (entryFrame m #[(.int p1), (.int p2), (.int p3), (.int p4), (.int p5)] maxLocals)) t := by
        intro t kt
        refine pre156 t ?_
        show Steps p.tables e below (T156.setTop (mkF m 142 #[.val (.int p1), .val (.int p2), .val (.int p3), .val (.int p4), .val (.int p5), .val (.int v2_0), .val (.int v4_0), .val (.int (((p5.toUInt32 >>> ((2 : Int32) &&& 31).toUInt32).toInt32) &&& (3 : Int32))), .val (.ref b6), .unset, .unset] [(.ref az_156)])) _
        refine XS.astore X156.here hx rfl (hb hby at_142) rfl rfl (l' := #[.val (.int p1), .val (.int p2), .val (.int p3), .val (.int p4), .val (.int p5), .val (.int v2_0), .val (.int v4_0), .val (.int (((p5.toUInt32 >>> ((2 : Int32) &&& 31).toUInt32).toInt32) &&& (3 : Int32))), .val (.ref b6), .val (.ref az_156), .unset]) rfl ?_
        show Steps p.tables e below (T156.setTop (mkF m 144 #[.val (.int p1), .val (.int p2), .val (.int p3), .val (.int p4), .val (.int p5), .val (.int v2_0), .val (.int v4_0), .val (.int (((p5.toUInt32 >>> ((2 : Int32) &&& 31).toUInt32).toInt32) &&& (3 : Int32))), .val (.ref b6), .val (.ref az_156), .unset] [])) _
        refine XS.aload X156.here hx rfl (hb hby at_144) rfl rfl ?_
        show Steps p.tables e below (T156.setTop (mkF m 146 #[.val (.int p1), .val (.int p2), .val (.int p3), .val (.int p4), .val (.int p5), .val (.int v2_0), .val (.int v4_0), .val (.int (((p5.toUInt32 >>> ((2 : Int32) &&& 31).toUInt32).toInt32) &&& (3 : Int32))), .val (.ref b6), .val (.ref az_156), .unset] [(.ref b6)])) _
        refine XS.aload X156.here hx rfl (hb hby at_146) rfl rfl ?_
        exact kt
      obtain ⟨cq170, kq170, q170a, q170b, q170c⟩ := isOf hZ rfl E_b6_24_158
      obtain ⟨_, _, ⟨T170, L170, k170, n170⟩, -, X170, ⟨Lc170, hQ170, l170, y170, z170⟩, st170⟩ := X156.virtualBack hx (y := (⟨"com/example/vertumnus/vertumnus/TableName", "equals", "(Ljava/lang/Object;)Z"⟩ : MethodName)) (z := (⟨"com/example/vertumnus/vertumnus/TableName", "equals", "(Ljava/lang/Object;)Z"⟩ : MethodName)) hown (mvT hZ (hw _ (List.mem_of_getElem? (i := 64) rfl))) (mvT hZ (hw _ (List.mem_of_getElem? (i := 65) rfl))) (notFace_of_selects (args := #[]) (mvT hZ (hw _ (List.mem_of_getElem? (i := 67) rfl)))) (mvT hZ (hw _ (List.mem_of_getElem? (i := 67) rfl))) (mvT hZ (hw _ (List.mem_of_getElem? (i := 66) rfl))) (by decide) (backOf (W := 0) (rm13s l Z a0 hw [] b6 az_156 T156.heap n0 Z156 E_az_156_156) hZ (hw _ (List.mem_of_getElem? (i := 68) rfl)) (hw _ (List.mem_of_getElem? (i := 2) rfl)) (by decide) (by decide)) q170a q170c (g := (mkF m 148 #[.val (.int p1), .val (.int p2), .val (.int p3), .val (.int p4), .val (.int p5), .val (.int v2_0), .val (.int v4_0), .val (.int (((p5.toUInt32 >>> ((2 : Int32) &&& 31).toUInt32).toInt32) &&& (3 : Int32))), .val (.ref b6), .val (.ref az_156), .unset] [(.ref az_156), (.ref b6)])) rfl (by rw [hml]; rfl) (Steps.refl _) (argsL := [(.ref az_156)]) (rest := []) (lenOf pd_5 rfl) rfl (by show 2 * 0 + _ ≤ _; exact Nat.le_of_eq rfl) (hb hby at_148) (fun _ _ => ⟨rfl, rfl, (by decide : 23 + 0 ≤ _), (by decide : 86 + 0 ≤ _)⟩)
      dsimp only [Pt.U, Pt.locs, Pt.cells, Pt.slots] at X170 l170 y170 z170 st170 hQ170
      subst l170 y170 z170
      obtain ⟨rfl, N170q, e170⟩ := hQ170
      have N170 := Fr.app N156 N170q
      have pre170 : ∀ t, Steps p.tables e below (T170.setTop (mkF m 151 #[.val (.int p1), .val (.int p2), .val (.int p3), .val (.int p4), .val (.int p5), .val (.int v2_0), .val (.int v4_0), .val (.int (((p5.toUInt32 >>> ((2 : Int32) &&& 31).toUInt32).toInt32) &&& (3 : Int32))), .val (.ref b6), .val (.ref az_156), .unset] [(.int (0 : Int32))])) t → Steps p.tables e below (s₁.setTop (entryFrame m #[(.int p1), (.int p2), (.int p3), (.int p4), (.int p5)] maxLocals)) t := fun t kt => pre169 t (st170.trans kt)
      have pre171 : ∀ t, Steps p.tables e below (T170.setTop (mkF m 159 #[.val (.int p1), .val (.int p2), .val (.int p3), .val (.int p4), .val (.int p5), .val (.int v2_0), .val (.int v4_0), .val (.int (((p5.toUInt32 >>> ((2 : Int32) &&& 31).toUInt32).toInt32) &&& (3 : Int32))), .val (.ref b6), .val (.ref az_156), .unset] [(.int (1 : Int32))])) t → Steps p.tables e below (s₁.setTop (entryFrame m #[(.int p1), (.int p2), (.int p3), (.int p4), (.int p5)] maxLocals)) t := by
        intro t kt
        refine pre170 t ?_
        show Steps p.tables e below (T170.setTop (mkF m 151 #[.val (.int p1), .val (.int p2), .val (.int p3), .val (.int p4), .val (.int p5), .val (.int v2_0), .val (.int v4_0), .val (.int (((p5.toUInt32 >>> ((2 : Int32) &&& 31).toUInt32).toInt32) &&& (3 : Int32))), .val (.ref b6), .val (.ref az_156), .unset] [(.int (0 : Int32))])) _
        refine XS.ifNo X170.here hx rfl (hb hby at_151) rfl ((if0 _ _).trans (teq (by decide)).2) ?_
        show Steps p.tables e below (T170.setTop (mkF m 154 #[.val (.int p1), .val (.int p2), .val (.int p3), .val (.int p4), .val (.int p5), .val (.int v2_0), .val (.int v4_0), .val (.int (((p5.toUInt32 >>> ((2 : Int32) &&& 31).toUInt32).toInt32) &&& (3 : Int32))), .val (.ref b6), .val (.ref az_156), .unset] [])) _
        refine XS.iconst X170.here hx rfl (hb hby at_154) ?_
        show Steps p.tables e below (T170.setTop (mkF m 155 #[.val (.int p1), .val (.int p2), .val (.int p3), .val (.int p4), .val (.int p5), .val (.int v2_0), .val (.int v4_0), .val (.int (((p5.toUInt32 >>> ((2 : Int32) &&& 31).toUInt32).toInt32) &&& (3 : Int32))), .val (.ref b6), .val (.ref az_156), .unset] [(.int (1 : Int32))])) _
        refine XS.goto X170.here hx rfl (pc0 := 155) (pc' := 159) rfl (hb hby at_155) (by decide) (by decide) ?_
        exact kt
      obtain ⟨fs, hr, hrun, hended, hEnd⟩ := X170.leaveW (s := s) (vm₁ := T156.vm) hS156 (by rw [e170]; exact (Nat.le_refl T156.heap.size)) (v := some (.int (1 : Int32))) (fun h => by rw [Bd.returns] at h; cases h)
      refine ⟨_, _, pre171 _ ?_, hrun, hended, _, _, rfl, ?_, hEnd.1, hEnd.2.1, hEnd.2.2.1, hEnd.2.2.2.mono (by decide) (by decide)⟩
      · show Steps p.tables e below (T170.setTop (mkF m 159 #[.val (.int p1), .val (.int p2), .val (.int p3), .val (.int p4), .val (.int p5), .val (.int v2_0), .val (.int v4_0), .val (.int (((p5.toUInt32 >>> ((2 : Int32) &&& 31).toUInt32).toInt32) &&& (3 : Int32))), .val (.ref b6), .val (.ref az_156), .unset] [(.int (1 : Int32))])) _
        exact retN X170 hx (t := .boolean) Bd.returns (by simp) (hb hby at_159) hr
      · show Q0 n0 _ T170.heap _
        rw [e170]
        exact ⟨rfl, N170⟩
    · have pre172 : ∀ t, Steps p.tables e below (T24.setTop (mkF m 160 #[.val (.int p1), .val (.int p2), .val (.int p3), .val (.int p4), .val (.int p5), .val (.int v2_0), .val (.int v4_0), .val (.int (((p5.toUInt32 >>> ((2 : Int32) &&& 31).toUInt32).toInt32) &&& (3 : Int32))), .val (.ref b6), .unset, .unset] [])) t → Steps p.tables e below (s₁.setTop (entryFrame m #[(.int p1), (.int p2), (.int p3), (.int p4), (.int p5)] maxLocals)) t := by
        intro t kt
        refine pre153 t ?_
        show Steps p.tables e below (T24.setTop (mkF m 135 #[.val (.int p1), .val (.int p2), .val (.int p3), .val (.int p4), .val (.int p5), .val (.int v2_0), .val (.int v4_0), .val (.int (((p5.toUInt32 >>> ((2 : Int32) &&& 31).toUInt32).toInt32) &&& (3 : Int32))), .val (.ref b6), .unset, .unset] [(.int (1 : Int32)), (.int (((p5.toUInt32 >>> ((2 : Int32) &&& 31).toUInt32).toInt32) &&& (3 : Int32)))])) _
        refine XS.icmpYes X24.here hx rfl (pc0 := 135) (pc' := 160) rfl (hb hby at_135) rfl (feq hc135).2 (by decide) (by decide) ?_
        exact kt
      have pre173 : ∀ t, Steps p.tables e below (T24.setTop (mkF m 163 #[.val (.int p1), .val (.int p2), .val (.int p3), .val (.int p4), .val (.int p5), .val (.int v2_0), .val (.int v4_0), .val (.int (((p5.toUInt32 >>> ((2 : Int32) &&& 31).toUInt32).toInt32) &&& (3 : Int32))), .val (.ref b6), .unset, .unset] [(.int (2 : Int32)), (.int (((p5.toUInt32 >>> ((2 : Int32) &&& 31).toUInt32).toInt32) &&& (3 : Int32)))])) t → Steps p.tables e below (s₁.setTop (entryFrame m #[(.int p1), (.int p2), (.int p3), (.int p4), (.int p5)] maxLocals)) t := by
        intro t kt
        refine pre172 t ?_
        show Steps p.tables e below (T24.setTop (mkF m 160 #[.val (.int p1), .val (.int p2), .val (.int p3), .val (.int p4), .val (.int p5), .val (.int v2_0), .val (.int v4_0), .val (.int (((p5.toUInt32 >>> ((2 : Int32) &&& 31).toUInt32).toInt32) &&& (3 : Int32))), .val (.ref b6), .unset, .unset] [])) _
        refine XS.iload X24.here hx rfl (hb hby at_160) rfl ?_
        show Steps p.tables e below (T24.setTop (mkF m 162 #[.val (.int p1), .val (.int p2), .val (.int p3), .val (.int p4), .val (.int p5), .val (.int v2_0), .val (.int v4_0), .val (.int (((p5.toUInt32 >>> ((2 : Int32) &&& 31).toUInt32).toInt32) &&& (3 : Int32))), .val (.ref b6), .unset, .unset] [(.int (((p5.toUInt32 >>> ((2 : Int32) &&& 31).toUInt32).toInt32) &&& (3 : Int32)))])) _
        refine XS.iconst X24.here hx rfl (hb hby at_162) ?_
        exact kt
      by_cases hc163 : (((p5.toUInt32 >>> ((2 : Int32) &&& 31).toUInt32).toInt32) &&& (3 : Int32)) = (2 : Int32)
      · have pre174 : ∀ t, Steps p.tables e below (T24.setTop (mkF m 166 #[.val (.int p1), .val (.int p2), .val (.int p3), .val (.int p4), .val (.int p5), .val (.int v2_0), .val (.int v4_0), .val (.int (((p5.toUInt32 >>> ((2 : Int32) &&& 31).toUInt32).toInt32) &&& (3 : Int32))), .val (.ref b6), .unset, .unset] [])) t → Steps p.tables e below (s₁.setTop (entryFrame m #[(.int p1), (.int p2), (.int p3), (.int p4), (.int p5)] maxLocals)) t := by
          intro t kt
          refine pre173 t ?_
          show Steps p.tables e below (T24.setTop (mkF m 163 #[.val (.int p1), .val (.int p2), .val (.int p3), .val (.int p4), .val (.int p5), .val (.int v2_0), .val (.int v4_0), .val (.int (((p5.toUInt32 >>> ((2 : Int32) &&& 31).toUInt32).toInt32) &&& (3 : Int32))), .val (.ref b6), .unset, .unset] [(.int (2 : Int32)), (.int (((p5.toUInt32 >>> ((2 : Int32) &&& 31).toUInt32).toInt32) &&& (3 : Int32)))])) _
          refine XS.icmpNo X24.here hx rfl (hb hby at_163) rfl (teq hc163).2 ?_
          exact kt
        have pre175 : ∀ t, Steps p.tables e below (T24.setTop (mkF m 169 #[.val (.int p1), .val (.int p2), .val (.int p3), .val (.int p4), .val (.int p5), .val (.int v2_0), .val (.int v4_0), .val (.int (((p5.toUInt32 >>> ((2 : Int32) &&& 31).toUInt32).toInt32) &&& (3 : Int32))), .val (.ref b6), .unset, .unset] [.null, (.ref b6)])) t → Steps p.tables e below (s₁.setTop (entryFrame m #[(.int p1), (.int p2), (.int p3), (.int p4), (.int p5)] maxLocals)) t := by
          intro t kt
          refine pre174 t ?_
          show Steps p.tables e below (T24.setTop (mkF m 166 #[.val (.int p1), .val (.int p2), .val (.int p3), .val (.int p4), .val (.int p5), .val (.int v2_0), .val (.int v4_0), .val (.int (((p5.toUInt32 >>> ((2 : Int32) &&& 31).toUInt32).toInt32) &&& (3 : Int32))), .val (.ref b6), .unset, .unset] [])) _
          refine XS.aload X24.here hx rfl (hb hby at_166) rfl rfl ?_
          show Steps p.tables e below (T24.setTop (mkF m 168 #[.val (.int p1), .val (.int p2), .val (.int p3), .val (.int p4), .val (.int p5), .val (.int v2_0), .val (.int v4_0), .val (.int (((p5.toUInt32 >>> ((2 : Int32) &&& 31).toUInt32).toInt32) &&& (3 : Int32))), .val (.ref b6), .unset, .unset] [(.ref b6)])) _
          refine XS.aconstNull X24.here hx rfl (hb hby at_168) ?_
          exact kt
        obtain ⟨cq176, kq176, q176a, q176b, q176c⟩ := isOf hZ rfl E_b6_24
        obtain ⟨_, _, ⟨T176, L176, k176, n176⟩, -, X176, ⟨Lc176, hQ176, l176, y176, z176⟩, st176⟩ := X24.virtualBack hx (y := (⟨"com/example/vertumnus/vertumnus/TableName", "equals", "(Ljava/lang/Object;)Z"⟩ : MethodName)) (z := (⟨"com/example/vertumnus/vertumnus/TableName", "equals", "(Ljava/lang/Object;)Z"⟩ : MethodName)) hown (mvT hZ (hw _ (List.mem_of_getElem? (i := 64) rfl))) (mvT hZ (hw _ (List.mem_of_getElem? (i := 65) rfl))) (notFace_of_selects (args := #[]) (mvT hZ (hw _ (List.mem_of_getElem? (i := 67) rfl)))) (mvT hZ (hw _ (List.mem_of_getElem? (i := 67) rfl))) (mvT hZ (hw _ (List.mem_of_getElem? (i := 66) rfl))) (by decide) (backOf (W := 0) (rm13n l Z a0 hw [] b6 T24.heap n0 Z24) hZ (hw _ (List.mem_of_getElem? (i := 68) rfl)) (hw _ (List.mem_of_getElem? (i := 2) rfl)) (by decide) (by decide)) q176a q176c (g := (mkF m 169 #[.val (.int p1), .val (.int p2), .val (.int p3), .val (.int p4), .val (.int p5), .val (.int v2_0), .val (.int v4_0), .val (.int (((p5.toUInt32 >>> ((2 : Int32) &&& 31).toUInt32).toInt32) &&& (3 : Int32))), .val (.ref b6), .unset, .unset] [.null, (.ref b6)])) rfl (by rw [hml]; rfl) (Steps.refl _) (argsL := [.null]) (rest := []) (lenOf pd_5 rfl) rfl (by show 2 * 0 + _ ≤ _; exact Nat.le_of_eq rfl) (hb hby at_169) (fun _ _ => ⟨rfl, rfl, (by decide : 17 + 0 ≤ _), (by decide : 74 + 0 ≤ _)⟩)
        dsimp only [Pt.U, Pt.locs, Pt.cells, Pt.slots] at X176 l176 y176 z176 st176 hQ176
        subst l176 y176 z176
        obtain ⟨rfl, N176q, e176⟩ := hQ176
        have N176 := Fr.app N24 N176q
        have pre176 : ∀ t, Steps p.tables e below (T176.setTop (mkF m 172 #[.val (.int p1), .val (.int p2), .val (.int p3), .val (.int p4), .val (.int p5), .val (.int v2_0), .val (.int v4_0), .val (.int (((p5.toUInt32 >>> ((2 : Int32) &&& 31).toUInt32).toInt32) &&& (3 : Int32))), .val (.ref b6), .unset, .unset] [(.int (0 : Int32))])) t → Steps p.tables e below (s₁.setTop (entryFrame m #[(.int p1), (.int p2), (.int p3), (.int p4), (.int p5)] maxLocals)) t := fun t kt => pre175 t (st176.trans kt)
        have pre177 : ∀ t, Steps p.tables e below (T176.setTop (mkF m 180 #[.val (.int p1), .val (.int p2), .val (.int p3), .val (.int p4), .val (.int p5), .val (.int v2_0), .val (.int v4_0), .val (.int (((p5.toUInt32 >>> ((2 : Int32) &&& 31).toUInt32).toInt32) &&& (3 : Int32))), .val (.ref b6), .unset, .unset] [(.int (1 : Int32))])) t → Steps p.tables e below (s₁.setTop (entryFrame m #[(.int p1), (.int p2), (.int p3), (.int p4), (.int p5)] maxLocals)) t := by
          intro t kt
          refine pre176 t ?_
          show Steps p.tables e below (T176.setTop (mkF m 172 #[.val (.int p1), .val (.int p2), .val (.int p3), .val (.int p4), .val (.int p5), .val (.int v2_0), .val (.int v4_0), .val (.int (((p5.toUInt32 >>> ((2 : Int32) &&& 31).toUInt32).toInt32) &&& (3 : Int32))), .val (.ref b6), .unset, .unset] [(.int (0 : Int32))])) _
          refine XS.ifNo X176.here hx rfl (hb hby at_172) rfl ((if0 _ _).trans (teq (by decide)).2) ?_
          show Steps p.tables e below (T176.setTop (mkF m 175 #[.val (.int p1), .val (.int p2), .val (.int p3), .val (.int p4), .val (.int p5), .val (.int v2_0), .val (.int v4_0), .val (.int (((p5.toUInt32 >>> ((2 : Int32) &&& 31).toUInt32).toInt32) &&& (3 : Int32))), .val (.ref b6), .unset, .unset] [])) _
          refine XS.iconst X176.here hx rfl (hb hby at_175) ?_
          show Steps p.tables e below (T176.setTop (mkF m 176 #[.val (.int p1), .val (.int p2), .val (.int p3), .val (.int p4), .val (.int p5), .val (.int v2_0), .val (.int v4_0), .val (.int (((p5.toUInt32 >>> ((2 : Int32) &&& 31).toUInt32).toInt32) &&& (3 : Int32))), .val (.ref b6), .unset, .unset] [(.int (1 : Int32))])) _
          refine XS.goto X176.here hx rfl (pc0 := 176) (pc' := 180) rfl (hb hby at_176) (by decide) (by decide) ?_
          exact kt
        obtain ⟨fs, hr, hrun, hended, hEnd⟩ := X176.leaveW (s := s) (vm₁ := T24.vm) hS24 (by rw [e176]; exact (Nat.le_refl T24.heap.size)) (v := some (.int (1 : Int32))) (fun h => by rw [Bd.returns] at h; cases h)
        refine ⟨_, _, pre177 _ ?_, hrun, hended, _, _, rfl, ?_, hEnd.1, hEnd.2.1, hEnd.2.2.1, hEnd.2.2.2.mono (by decide) (by decide)⟩
        · show Steps p.tables e below (T176.setTop (mkF m 180 #[.val (.int p1), .val (.int p2), .val (.int p3), .val (.int p4), .val (.int p5), .val (.int v2_0), .val (.int v4_0), .val (.int (((p5.toUInt32 >>> ((2 : Int32) &&& 31).toUInt32).toInt32) &&& (3 : Int32))), .val (.ref b6), .unset, .unset] [(.int (1 : Int32))])) _
          exact retN X176 hx (t := .boolean) Bd.returns (by simp) (hb hby at_180) hr
        · show Q0 n0 _ T176.heap _
          rw [e176]
          exact ⟨rfl, N176⟩
      · have pre178 : ∀ t, Steps p.tables e below (T24.setTop (mkF m 181 #[.val (.int p1), .val (.int p2), .val (.int p3), .val (.int p4), .val (.int p5), .val (.int v2_0), .val (.int v4_0), .val (.int (((p5.toUInt32 >>> ((2 : Int32) &&& 31).toUInt32).toInt32) &&& (3 : Int32))), .val (.ref b6), .unset, .unset] [])) t → Steps p.tables e below (s₁.setTop (entryFrame m #[(.int p1), (.int p2), (.int p3), (.int p4), (.int p5)] maxLocals)) t := by
          intro t kt
          refine pre173 t ?_
          show Steps p.tables e below (T24.setTop (mkF m 163 #[.val (.int p1), .val (.int p2), .val (.int p3), .val (.int p4), .val (.int p5), .val (.int v2_0), .val (.int v4_0), .val (.int (((p5.toUInt32 >>> ((2 : Int32) &&& 31).toUInt32).toInt32) &&& (3 : Int32))), .val (.ref b6), .unset, .unset] [(.int (2 : Int32)), (.int (((p5.toUInt32 >>> ((2 : Int32) &&& 31).toUInt32).toInt32) &&& (3 : Int32)))])) _
          refine XS.icmpYes X24.here hx rfl (pc0 := 163) (pc' := 181) rfl (hb hby at_163) rfl (feq hc163).2 (by decide) (by decide) ?_
          exact kt
        have pre179 : ∀ t, Steps p.tables e below (T24.setTop (mkF m 185 #[.val (.int p1), .val (.int p2), .val (.int p3), .val (.int p4), .val (.int p5), .val (.int v2_0), .val (.int v4_0), .val (.int (((p5.toUInt32 >>> ((2 : Int32) &&& 31).toUInt32).toInt32) &&& (3 : Int32))), .val (.ref b6), .unset, .unset] [(.ref b6), (.ref b6)])) t → Steps p.tables e below (s₁.setTop (entryFrame m #[(.int p1), (.int p2), (.int p3), (.int p4), (.int p5)] maxLocals)) t := by
          intro t kt
          refine pre178 t ?_
          show Steps p.tables e below (T24.setTop (mkF m 181 #[.val (.int p1), .val (.int p2), .val (.int p3), .val (.int p4), .val (.int p5), .val (.int v2_0), .val (.int v4_0), .val (.int (((p5.toUInt32 >>> ((2 : Int32) &&& 31).toUInt32).toInt32) &&& (3 : Int32))), .val (.ref b6), .unset, .unset] [])) _
          refine XS.aload X24.here hx rfl (hb hby at_181) rfl rfl ?_
          show Steps p.tables e below (T24.setTop (mkF m 183 #[.val (.int p1), .val (.int p2), .val (.int p3), .val (.int p4), .val (.int p5), .val (.int v2_0), .val (.int v4_0), .val (.int (((p5.toUInt32 >>> ((2 : Int32) &&& 31).toUInt32).toInt32) &&& (3 : Int32))), .val (.ref b6), .unset, .unset] [(.ref b6)])) _
          refine XS.aload X24.here hx rfl (hb hby at_183) rfl rfl ?_
          exact kt
        obtain ⟨cq180, kq180, q180a, q180b, q180c⟩ := isOf hZ rfl E_b6_24
        obtain ⟨_, _, ⟨T180, L180, k180, n180⟩, -, X180, ⟨Lc180, hQ180, l180, y180, z180⟩, st180⟩ := X24.virtualBack hx (y := (⟨"com/example/vertumnus/vertumnus/TableName", "equals", "(Ljava/lang/Object;)Z"⟩ : MethodName)) (z := (⟨"com/example/vertumnus/vertumnus/TableName", "equals", "(Ljava/lang/Object;)Z"⟩ : MethodName)) hown (mvT hZ (hw _ (List.mem_of_getElem? (i := 64) rfl))) (mvT hZ (hw _ (List.mem_of_getElem? (i := 65) rfl))) (notFace_of_selects (args := #[]) (mvT hZ (hw _ (List.mem_of_getElem? (i := 67) rfl)))) (mvT hZ (hw _ (List.mem_of_getElem? (i := 67) rfl))) (mvT hZ (hw _ (List.mem_of_getElem? (i := 66) rfl))) (by decide) (backOf (W := 0) (rm13t l Z a0 hw [] b6 b6 cz az_9 tz_9 kz_9 (own_f2 p1) (own_str p1) az_15 tz_15 kz_15 (own_f2 p2) (own_str p2) az_9 tz_9 kz_9 (own_f2 p1) (own_str p1) az_15 tz_15 kz_15 (own_f2 p2) (own_str p2) T24.heap n0 Z24 E_b6_24 E_b6_24 SCS_25 F_schema_b6_24 E_az_9_9_29 F_value_az_9_9_30 F_coder_az_9_9_31 V_tz_9_9_32 F_name_b6_24 E_az_15_15_33 F_value_az_15_15_34 F_coder_az_15_15_35 V_tz_15_15_36 F_schema_b6_24 E_az_9_9_29 F_value_az_9_9_30 F_coder_az_9_9_31 V_tz_9_9_32 F_name_b6_24 E_az_15_15_33 F_value_az_15_15_34 F_coder_az_15_15_35 V_tz_15_15_36 (hCS) (own_lenS p1) (own_chS p1) (own_lenS p2) (own_chS p2) (own_lenS p1) (own_chS p1) (own_lenS p2) (own_chS p2)) hZ (hw _ (List.mem_of_getElem? (i := 68) rfl)) (hw _ (List.mem_of_getElem? (i := 2) rfl)) (by decide) (by decide)) q180a q180c (g := (mkF m 185 #[.val (.int p1), .val (.int p2), .val (.int p3), .val (.int p4), .val (.int p5), .val (.int v2_0), .val (.int v4_0), .val (.int (((p5.toUInt32 >>> ((2 : Int32) &&& 31).toUInt32).toInt32) &&& (3 : Int32))), .val (.ref b6), .unset, .unset] [(.ref b6), (.ref b6)])) rfl (by rw [hml]; rfl) (Steps.refl _) (argsL := [(.ref b6)]) (rest := []) (lenOf pd_5 rfl) rfl (by show 2 * 0 + _ ≤ _; exact Nat.le_of_eq rfl) (hb hby at_185) (fun _ _ => ⟨rfl, rfl, (by decide : 17 + 0 ≤ _), (by decide : 74 + 0 ≤ _)⟩)
        dsimp only [Pt.U, Pt.locs, Pt.cells, Pt.slots] at X180 l180 y180 z180 st180 hQ180
        subst l180 y180 z180
        obtain ⟨rfl, N180q, e180⟩ := hQ180
        have N180 := Fr.app N24 N180q
        have pre180 : ∀ t, Steps p.tables e below (T180.setTop (mkF m 188 #[.val (.int p1), .val (.int p2), .val (.int p3), .val (.int p4), .val (.int p5), .val (.int v2_0), .val (.int v4_0), .val (.int (((p5.toUInt32 >>> ((2 : Int32) &&& 31).toUInt32).toInt32) &&& (3 : Int32))), .val (.ref b6), .unset, .unset] [(.int (own_eq2 (own_str p1) (own_str p1) (own_str p2) (own_str p2)))])) t → Steps p.tables e below (s₁.setTop (entryFrame m #[(.int p1), (.int p2), (.int p3), (.int p4), (.int p5)] maxLocals)) t := fun t kt => pre179 t (st180.trans kt)
        have hfin : (own_eq2 (own_str p1) (own_str p1) (own_str p2) (own_str p2)) = 1 := by
          simp [own_eq2]
        obtain ⟨fs, hr, hrun, hended, hEnd⟩ := X180.leaveW (s := s) (vm₁ := T24.vm) hS24 (by rw [e180]; exact (Nat.le_refl T24.heap.size)) (v := some (.int (1 : Int32))) (fun h => by rw [Bd.returns] at h; cases h)
        refine ⟨_, _, pre180 _ ?_, hrun, hended, _, _, rfl, ?_, hEnd.1, hEnd.2.1, hEnd.2.2.1, hEnd.2.2.2.mono (by decide) (by decide)⟩
        · show Steps p.tables e below (T180.setTop (mkF m 188 #[.val (.int p1), .val (.int p2), .val (.int p3), .val (.int p4), .val (.int p5), .val (.int v2_0), .val (.int v4_0), .val (.int (((p5.toUInt32 >>> ((2 : Int32) &&& 31).toUInt32).toInt32) &&& (3 : Int32))), .val (.ref b6), .unset, .unset] [(.int (own_eq2 (own_str p1) (own_str p1) (own_str p2) (own_str p2)))])) _
          rw [hfin]
          exact retN X180 hx (t := .boolean) Bd.returns (by simp) (hb hby at_188) hr
        · show Q0 n0 _ T180.heap _
          rw [e180]
          exact ⟨rfl, N180⟩
set_option maxRecDepth 65536 in
set_option maxHeartbeats 40000000 in
theorem comes_1 {Post : Tables → Env → Array Value → State → Outcome → State → Prop} (hpost : ∀ tb e args s v u, (limb_1_1.after args s (.returned v) u = true ∧ limb_1_2.after args s (.returned v) u = true ∧ True) → ReturnedEndW s (.returned v) u (Jvm.fieldLocs frame_1_writes args s ++ Jvm.arrayLocs frame_1_arrays args s ++ Jvm.staticLocs frame_1_statics s) 48 3264 → Post tb e args s (.returned v) u) :
    ArmFor flags0 classFile x code maxLocals ret World_1 tables_1 room_1 Calls_1 rest_1 Pre_1 Post := by
  intro l hfl _ _ p e ha hc hk s m args below hf hA hF happ hP
  obtain ⟨hcalls, hrest, hpre⟩ := hP
  obtain ⟨-, -, -, hnamed, -, -, -, hat⟩ := (Spec.applies_iff hf).mp happ
  obtain ⟨hg, hn⟩ := and_e (Cond.before_iff.mp (show (Jvm.Cond.and given_1 narrow_1).before args s = true from hpre))
  obtain ⟨g1, g2⟩ := and_e hg
  obtain ⟨g3, g4⟩ := and_e g2
  obtain ⟨g5, g6⟩ := and_e g4
  obtain ⟨g7, g8⟩ := and_e g6
  obtain ⟨g9, g10⟩ := and_e g8
  obtain ⟨w0, w1, w2, w3, w4, rfl⟩ : ∃ w0 w1 w2 w3 w4 : Value, args = #[w0, w1, w2, w3, w4] := by
    have hs : args.size = 5 := by simpa [Cond.value, given_1] using g1
    obtain ⟨L⟩ := args
    match L, hs with
    | [w0, w1, w2, w3, w4], _ => exact ⟨w0, w1, w2, w3, w4, rfl⟩
  have hw := fun d (hd : d ∈ tables_1) => atoms_spec (ws := Jvm.Cond.code x code maxLocals ret :: tables_1) hat d (List.mem_cons_of_mem _ hd)
  have hfit : Fit s := fun {y c} hc i hi => by
    obtain ⟨ha, rfl⟩ := Array.getElem?_eq_some_iff.mp hc
    have q := List.all_eq_true.mp ((Array.all_eq_true_iff_forall_mem.mp hF) _ (Array.getElem_mem ha)) i (List.mem_range.mpr hi)
    simpa [Array.getElem?_eq_getElem hi] using q
  obtain ⟨hsets, hown0⟩ := atoms_of _ (rest_1_c_eq ▸ (show rest_1_c.before _ s = true from hrest))
  have hr0 := Cond.before_iff.mp hown0
  obtain ⟨i0, ei0⟩ := is_v g3
  obtain rfl : w0 = (.int i0) := Option.some.inj ei0
  obtain ⟨i1, ei1⟩ := is_v g5
  obtain rfl : w1 = (.int i1) := Option.some.inj ei1
  obtain ⟨i2, ei2⟩ := is_v g7
  obtain rfl : w2 = (.int i2) := Option.some.inj ei2
  obtain ⟨i3, ei3⟩ := is_v g9
  obtain rfl : w3 = (.int i3) := Option.some.inj ei3
  obtain ⟨i4, ei4⟩ := is_v g10
  obtain rfl : w4 = (.int i4) := Option.some.inj ei4
  have nz := not_v (Cond.before_iff.mp (hsets _ (List.mem_of_getElem? (i := 2) rfl)))
  obtain ⟨cz, ecz⟩ := is_v (Cond.before_iff.mp (hsets _ (List.mem_of_getElem? (i := 1) rfl)))
  have SCS := Sta.start ecz (Or.inl (hsets _ (List.mem_of_getElem? (i := 0) rfl)))
  have hCS : ¬ (cz = (0 : Int32)) := gotF (Cond.eq_ints ecz (Term.int_eval (0))) nz
  have hCH0 : CHv s EL s.vm s.heap := CHv.start (own_EW hw) (fun p hp => hcalls.1 p hp) (hsets _ (List.mem_of_getElem? (i := 2) rfl)) (hw _ (List.mem_of_getElem? (i := 25) rfl)) (hw _ (List.mem_of_getElem? (i := 12) rfl))
  obtain ⟨n, o, h1, h2, h3, _, L, rfl, ⟨rfl, N⟩, hq⟩ := rm0 l s _ hw tables_1 i0 i1 i2 i3 i4 cz s.heap s.heap.size (Nat.le_refl _) SCS hCS p e ha hc hk s m _ below hf ((Spec.applies_iff_loose hf).mp happ).1 ⟨rfl, State.Warmed39.refl s, rfl, hCH0⟩ trivial
  refine ⟨n, _, h1, h2, h3, hpost _ _ _ _ _ _ ⟨Cond.after_iff.mpr rfl, Cond.after_iff.mpr (eq_i res_at (Term.int_eval (1)) rfl), trivial⟩ ⟨hq.1, hq.2.1, hq.2.2.1, (hq.2.2.2.sift fun y hy => Or.inr (N y hy)).mono (by decide) (by decide)⟩⟩
theorem main_1_1 : Claimed_1_1 := comes_1 fun _ _ _ _ _ _ h hF => ⟨h.1, hF⟩
theorem main_1_2 : Claimed_1_2 := comes_1 fun _ _ _ _ _ _ h hF => ⟨h.2.1, hF⟩
end Jvm.Pilot.@@N@@
namespace Jvm.Pilot.@@N@@
open Jvm Jvm.ClassFile Sem Op Lib Jvm.Free Jvm.Stand Jvm.Pilot.@@N@@.Jvm.D
/-! MADE BY PROGRAM (witnessworld.py) out of the Statement's table words and the real class files: 21 classes; the members and pool entries that the words name. The judged class is class 1, her method 5. -/
namespace start1
open Jvm.ClassFile
def u (s : String) : CpInfo := .utf8 (stringToUtf16 s)
/-- a pool by its gaps: so many unusable entries, then the entry; so many at the end -/
def gap : Nat → List CpInfo → List CpInfo
  | 0, r => r
  | n + 1, r => .unusable :: gap n r
def poolList (es : List (Nat × CpInfo)) (last : Nat) : List CpInfo := es.foldr (fun e r => gap e.1 (e.2 :: r)) (gap last [])
def pool (es : List (Nat × CpInfo)) (last : Nat) : Array CpInfo := ⟨poolList es last⟩
def fileOf (pool : Array CpInfo) (this : Nat) (attrs : Array Attribute := #[]) (ms : Array MethodInfo := #[]) (fl : Nat := 33) (sup : Nat := 0) (ifs : Array Nat := #[]) (fds : Array FieldInfo := #[]) : ClassFile where
  minorVersion := 0
  majorVersion := 65
  constantPool := pool
  accessFlags := fl
  thisClass := this
  superClass := sup
  interfaces := ifs
  fields := fds
  methods := ms
  attributes := attrs
def plain (name : String) (sup : Option ClassId) : Class where
  name := name
  kind := .ordinary
  loader := none
  accessFlags := 33
  super := sup
  interfaces := #[]
  cf := none
  fields := #[]
  methods := #[]
  instanceTypes := #[]
  staticTypes := #[]
  resolved := #[]
  callSites := []
  init := .initialized
  statics := none
  mirror := none

def pool0 : Array CpInfo := pool [(5, u "<init>"), (0, u "()V"), (1, .class_ 10), (1, u "java/lang/Object")] 113

def k0c0 : Code := { maxStack := 0, maxLocals := 1, code := object_method_1_code, exceptionTable := #[], attributes := #[] }
def k0m0 : Method := { name := "<init>", desc := "()V", sig := { parameters := [], returnType := none }, accessFlags := 1, code := some k0c0 }
/-- java/lang/Object -/
def k0 : Class := { plain "java/lang/Object" none with
  accessFlags := 33
  interfaces := #[]
  cf := some (fileOf pool0 8 #[] #[{ accessFlags := 1, nameIndex := 5, descriptorIndex := 6, attributes := #[] }] 33 0 #[] #[])
  fields := #[]
  methods := #[k0m0]
  instanceTypes := #[]
  staticTypes := #[]
  resolved := Array.replicate 124 none
  statics := none }

def pool1 : Array CpInfo := pool [(2, .class_ 4), (1, u "java/lang/Object"), (0, u "<init>"), (0, u "()V"), (0, .methodref 8 9), (0, .class_ 10), (0, .nameAndType 11 12), (0, u "com/example/vertumnus/vertumnus/TableNameEqualsPinLaw"), (0, u "len"), (0, u "(I)I"), (0, .methodref 8 14), (0, .nameAndType 15 16), (0, u "ch"), (0, u "(II)I"), (0, .class_ 18), (0, u "java/lang/String"), (0, .methodref 17 20), (0, .nameAndType 5 21), (0, u "([C)V"), (0, .class_ 23), (0, u "com/example/vertumnus/vertumnus/TableName"), (0, .methodref 8 25), (0, .nameAndType 26 27), (0, u "mk"), (0, u "(I)Ljava/lang/String;"), (0, .methodref 22 29), (0, .nameAndType 5 30), (0, u "(Ljava/lang/String;Ljava/lang/String;)V"), (0, .methodref 8 32), (0, .nameAndType 33 34), (0, u "same"), (0, u "(II)Z"), (0, .methodref 22 36), (0, .nameAndType 37 38), (0, u "equals"), (0, u "(Ljava/lang/Object;)Z"), (5, u "law"), (0, u "(IIIII)Z")] 2

def k1m0 : Method := { name := "<init>", desc := "()V", sig := { parameters := [], returnType := none }, accessFlags := 1, code := none }
def k1c1 : Code := { maxStack := 2, maxLocals := 1, code := method_2_code, exceptionTable := #[], attributes := #[] }
def k1m1 : Method := { name := "len", desc := "(I)I", sig := { parameters := [.int], returnType := some .int }, accessFlags := 10, code := some k1c1 }
def k1c2 : Code := { maxStack := 4, maxLocals := 2, code := method_3_code, exceptionTable := #[], attributes := #[] }
def k1m2 : Method := { name := "ch", desc := "(II)I", sig := { parameters := [.int, .int], returnType := some .int }, accessFlags := 10, code := some k1c2 }
def k1c3 : Code := { maxStack := 4, maxLocals := 3, code := method_4_code, exceptionTable := #[], attributes := #[] }
def k1m3 : Method := { name := "mk", desc := "(I)Ljava/lang/String;", sig := { parameters := [.int], returnType := some (.object "java/lang/String") }, accessFlags := 10, code := some k1c3 }
def k1c4 : Code := { maxStack := 3, maxLocals := 4, code := method_5_code, exceptionTable := #[], attributes := #[] }
def k1m4 : Method := { name := "same", desc := "(II)Z", sig := { parameters := [.int, .int], returnType := some .boolean }, accessFlags := 10, code := some k1c4 }
def k1c5 : Code := { maxStack := 4, maxLocals := 11, code := code, exceptionTable := #[], attributes := #[] }
def k1m5 : Method := { name := "law", desc := "(IIIII)Z", sig := { parameters := [.int, .int, .int, .int, .int], returnType := some .boolean }, accessFlags := 9, code := some k1c5 }
/-- com/example/vertumnus/vertumnus/TableNameEqualsPinLaw -/
def k1 : Class := { plain "com/example/vertumnus/vertumnus/TableNameEqualsPinLaw" (some 0) with
  accessFlags := 49
  interfaces := #[]
  cf := some (fileOf pool1 8 #[] #[{ accessFlags := 1, nameIndex := 5, descriptorIndex := 6, attributes := #[] }, { accessFlags := 10, nameIndex := 11, descriptorIndex := 12, attributes := #[] }, { accessFlags := 10, nameIndex := 15, descriptorIndex := 16, attributes := #[] }, { accessFlags := 10, nameIndex := 26, descriptorIndex := 27, attributes := #[] }, { accessFlags := 10, nameIndex := 33, descriptorIndex := 34, attributes := #[] }, { accessFlags := 9, nameIndex := 44, descriptorIndex := 45, attributes := #[] }] 49 2 #[] #[])
  fields := #[]
  methods := #[k1m0, k1m1, k1m2, k1m3, k1m4, k1m5]
  instanceTypes := #[]
  staticTypes := #[]
  resolved := Array.replicate 48 none
  statics := none }

def pool2 : Array CpInfo := pool [(1, .class_ 2), (0, u "java/lang/Comparable"), (0, .class_ 4), (0, u "java/lang/Object")] 7

/-- java/lang/Comparable -/
def k2 : Class := { plain "java/lang/Comparable" (some 0) with
  accessFlags := 1537
  interfaces := #[]
  cf := some (fileOf pool2 1 #[] #[] 1537 3 #[] #[])
  fields := #[]
  methods := #[]
  instanceTypes := #[]
  staticTypes := #[]
  resolved := Array.replicate 12 none
  statics := none }

def pool3 : Array CpInfo := pool [(1, .methodref 2 3), (0, .class_ 4), (0, .nameAndType 5 6), (0, u "java/lang/Object"), (0, u "<init>"), (0, u "()V"), (0, .string 8), (0, u "schema"), (0, .methodref 10 11), (0, .class_ 12), (0, .nameAndType 13 14), (0, u "java/util/Objects"), (0, u "requireNonNull"), (0, u "(Ljava/lang/Object;Ljava/lang/String;)Ljava/lang/Object;"), (0, .class_ 16), (0, u "java/lang/String"), (0, .fieldref 18 19), (0, .class_ 20), (0, .nameAndType 8 21), (0, u "com/example/vertumnus/vertumnus/TableName"), (0, u "Ljava/lang/String;"), (0, .string 23), (0, u "name"), (0, .fieldref 18 25), (0, .nameAndType 23 21), (2, .methodref 15 29), (0, .nameAndType 30 31), (0, u "equals"), (0, u "(Ljava/lang/Object;)Z"), (6, u "ORDER"), (0, u "Ljava/util/Comparator;"), (27, .class_ 68), (0, u "java/lang/Comparable"), (0, u "DEFAULT_SCHEMA"), (3, u "(Ljava/lang/String;Ljava/lang/String;)V")] 48

def k3c0 : Code := { maxStack := 3, maxLocals := 3, code := prog_8_method_1_code, exceptionTable := #[], attributes := #[] }
def k3m0 : Method := { name := "<init>", desc := "(Ljava/lang/String;Ljava/lang/String;)V", sig := { parameters := [(.object "java/lang/String"), (.object "java/lang/String")], returnType := none }, accessFlags := 1, code := some k3c0 }
def k3c1 : Code := { maxStack := 2, maxLocals := 2, code := prog_8_method_6_code, exceptionTable := #[], attributes := #[] }
def k3m1 : Method := { name := "equals", desc := "(Ljava/lang/Object;)Z", sig := { parameters := [(.object "java/lang/Object")], returnType := some .boolean }, accessFlags := 1, code := some k3c1 }
/-- com/example/vertumnus/vertumnus/TableName -/
def k3 : Class := { plain "com/example/vertumnus/vertumnus/TableName" (some 0) with
  accessFlags := 33
  interfaces := #[2]
  cf := some (fileOf pool3 18 #[] #[{ accessFlags := 1, nameIndex := 5, descriptorIndex := 73, attributes := #[] }, { accessFlags := 1, nameIndex := 30, descriptorIndex := 31, attributes := #[] }] 33 2 #[67] #[{ accessFlags := 25, nameIndex := 69, descriptorIndex := 21, attributes := #[] }, { accessFlags := 26, nameIndex := 38, descriptorIndex := 39, attributes := #[] }, { accessFlags := 18, nameIndex := 8, descriptorIndex := 21, attributes := #[] }, { accessFlags := 18, nameIndex := 23, descriptorIndex := 21, attributes := #[] }])
  fields := #[{ name := "DEFAULT_SCHEMA", type := (.object "java/lang/String"), accessFlags := 25, slot := 0, constantValue := 0 }, { name := "ORDER", type := (.object "java/util/Comparator"), accessFlags := 26, slot := 1, constantValue := 0 }, { name := "schema", type := (.object "java/lang/String"), accessFlags := 18, slot := 0, constantValue := 0 }, { name := "name", type := (.object "java/lang/String"), accessFlags := 18, slot := 1, constantValue := 0 }]
  methods := #[k3m0, k3m1]
  instanceTypes := #[(.object "java/lang/String"), (.object "java/lang/String")]
  staticTypes := #[(.object "java/lang/String"), (.object "java/util/Comparator")]
  resolved := Array.replicate 122 none
  statics := none }

def pool4 : Array CpInfo := pool [(1, .class_ 2), (0, u "java/io/Serializable"), (0, .class_ 4), (0, u "java/lang/Object")] 2

/-- java/io/Serializable -/
def k4 : Class := { plain "java/io/Serializable" (some 0) with
  accessFlags := 1537
  interfaces := #[]
  cf := some (fileOf pool4 1 #[] #[] 1537 3 #[] #[])
  fields := #[]
  methods := #[]
  instanceTypes := #[]
  staticTypes := #[]
  resolved := Array.replicate 7 none
  statics := none }

def pool5 : Array CpInfo := pool [(2, .class_ 4), (1, u "java/lang/CharSequence"), (42, .class_ 48), (0, u "java/lang/CharSequence$1CodePointIterator"), (10, .class_ 60), (0, u "java/lang/CharSequence$1CharIterator"), (5, .class_ 67), (0, u "java/lang/Object")] 63

/-- java/lang/CharSequence -/
def k5 : Class := { plain "java/lang/CharSequence" (some 0) with
  accessFlags := 1537
  interfaces := #[]
  cf := some (fileOf pool5 2 #[.nestMembers #[47, 59]] #[] 1537 66 #[] #[])
  fields := #[]
  methods := #[]
  instanceTypes := #[]
  staticTypes := #[]
  resolved := Array.replicate 131 none
  statics := none }

def pool6 : Array CpInfo := pool [(1, .class_ 2), (0, u "java/lang/constant/Constable"), (0, .class_ 4), (0, u "java/lang/Object")] 6

/-- java/lang/constant/Constable -/
def k6 : Class := { plain "java/lang/constant/Constable" (some 0) with
  accessFlags := 1537
  interfaces := #[]
  cf := some (fileOf pool6 1 #[] #[] 1537 3 #[] #[])
  fields := #[]
  methods := #[]
  instanceTypes := #[]
  staticTypes := #[]
  resolved := Array.replicate 11 none
  statics := none }

def pool7 : Array CpInfo := pool [(1, .class_ 2), (0, u "java/lang/constant/ConstantDesc"), (0, .class_ 4), (0, u "java/lang/Object")] 32

/-- java/lang/constant/ConstantDesc -/
def k7 : Class := { plain "java/lang/constant/ConstantDesc" (some 0) with
  accessFlags := 1537
  interfaces := #[]
  cf := some (fileOf pool7 1 #[] #[] 1537 3 #[] #[])
  fields := #[]
  methods := #[]
  instanceTypes := #[]
  staticTypes := #[]
  resolved := Array.replicate 37 none
  statics := none }

def pool8 : Array CpInfo := pool [(1, .methodref 2 3), (0, .class_ 4), (0, .nameAndType 5 6), (0, u "java/lang/Object"), (0, u "<init>"), (0, u "()V"), (0, .string 8), (0, u ""), (0, .fieldref 10 11), (0, .class_ 12), (0, .nameAndType 13 14), (0, u "java/lang/String"), (0, u "value"), (0, u "[B"), (0, .fieldref 10 16), (0, .nameAndType 17 18), (0, u "coder"), (0, u "B"), (2, u "hash"), (0, u "I"), (2, u "hashIsZero"), (0, u "Z"), (0, .methodref 10 28), (0, .nameAndType 5 29), (0, u "([CIILjava/lang/Void;)V"), (8, .fieldref 10 39), (0, .nameAndType 40 26), (0, u "COMPACT_STRINGS"), (1, .class_ 44), (1, u "java/lang/StringUTF16"), (0, u "compress"), (1, .methodref 42 48), (0, .nameAndType 49 50), (0, u "coderFromArrayLen"), (0, u "([BI)B"), (56, .class_ 109), (1, u "java/lang/StringLatin1"), (67, .methodref 42 178), (0, .nameAndType 45 179), (0, u "([CII)[B"), (361, .methodref 107 542), (0, .nameAndType 543 544), (0, u "equals"), (0, u "([B[B)Z"), (28, u "(Ljava/lang/Object;)Z"), (1, .class_ 576), (0, u "java/lang/CharSequence"), (22, u "CASE_INSENSITIVE_ORDER"), (0, u "Ljava/util/Comparator;"), (409, u "([C)V"), (90, u "serialPersistentFields"), (0, u "[Ljava/io/ObjectStreamField;"), (0, .class_ 1104), (0, u "java/lang/String$CaseInsensitiveComparator"), (1, .class_ 1107), (0, u "java/io/Serializable"), (0, .class_ 1109), (0, u "java/lang/Comparable"), (0, .class_ 1111), (0, u "java/lang/constant/Constable"), (0, .class_ 1113), (0, u "java/lang/constant/ConstantDesc"), (2, u "serialVersionUID"), (0, u "J"), (3, u "REPL"), (0, u "C"), (2, u "LATIN1"), (1, u "UTF16")] 323

def k8m0 : Method := { name := "<init>", desc := "()V", sig := { parameters := [], returnType := none }, accessFlags := 1, code := none }
def k8c1 : Code := { maxStack := 5, maxLocals := 2, code := jdk_42_method_3_code, exceptionTable := #[], attributes := #[] }
def k8m1 : Method := { name := "<init>", desc := "([C)V", sig := { parameters := [(.array .char)], returnType := none }, accessFlags := 1, code := some k8c1 }
def k8c2 : Code := { maxStack := 2, maxLocals := 3, code := jdk_42_method_66_code, exceptionTable := #[], attributes := #[] }
def k8m2 : Method := { name := "equals", desc := "(Ljava/lang/Object;)Z", sig := { parameters := [(.object "java/lang/Object")], returnType := some .boolean }, accessFlags := 1, code := some k8c2 }
def k8c3 : Code := { maxStack := 4, maxLocals := 6, code := jdk_42_method_149_code, exceptionTable := #[], attributes := #[] }
def k8m3 : Method := { name := "<init>", desc := "([CIILjava/lang/Void;)V", sig := { parameters := [(.array .char), .int, .int, (.object "java/lang/Void")], returnType := none }, accessFlags := 2, code := some k8c3 }
/-- java/lang/String -/
def k8 : Class := { plain "java/lang/String" (some 0) with
  accessFlags := 49
  interfaces := #[4, 2, 5, 6, 7]
  cf := some (fileOf pool8 10 #[.nestMembers #[1103]] #[{ accessFlags := 1, nameIndex := 5, descriptorIndex := 6, attributes := #[] }, { accessFlags := 1, nameIndex := 5, descriptorIndex := 1010, attributes := #[] }, { accessFlags := 1, nameIndex := 543, descriptorIndex := 573, attributes := #[] }, { accessFlags := 2, nameIndex := 5, descriptorIndex := 29, attributes := #[] }] 49 2 #[1106, 1108, 575, 1110, 1112] #[{ accessFlags := 18, nameIndex := 13, descriptorIndex := 14, attributes := #[] }, { accessFlags := 18, nameIndex := 17, descriptorIndex := 18, attributes := #[] }, { accessFlags := 2, nameIndex := 21, descriptorIndex := 22, attributes := #[] }, { accessFlags := 2, nameIndex := 25, descriptorIndex := 26, attributes := #[] }, { accessFlags := 26, nameIndex := 1116, descriptorIndex := 1117, attributes := #[] }, { accessFlags := 24, nameIndex := 40, descriptorIndex := 26, attributes := #[] }, { accessFlags := 26, nameIndex := 1101, descriptorIndex := 1102, attributes := #[] }, { accessFlags := 26, nameIndex := 1121, descriptorIndex := 1122, attributes := #[] }, { accessFlags := 25, nameIndex := 599, descriptorIndex := 600, attributes := #[] }, { accessFlags := 24, nameIndex := 1125, descriptorIndex := 18, attributes := #[] }, { accessFlags := 24, nameIndex := 1127, descriptorIndex := 18, attributes := #[] }])
  fields := #[{ name := "value", type := (.array .byte), accessFlags := 18, slot := 0, constantValue := 0 }, { name := "coder", type := .byte, accessFlags := 18, slot := 1, constantValue := 0 }, { name := "hash", type := .int, accessFlags := 2, slot := 2, constantValue := 0 }, { name := "hashIsZero", type := .boolean, accessFlags := 2, slot := 3, constantValue := 0 }, { name := "serialVersionUID", type := .long, accessFlags := 26, slot := 0, constantValue := 0 }, { name := "COMPACT_STRINGS", type := .boolean, accessFlags := 24, slot := 1, constantValue := 0 }, { name := "serialPersistentFields", type := (.array (.object "java/io/ObjectStreamField")), accessFlags := 26, slot := 2, constantValue := 0 }, { name := "REPL", type := .char, accessFlags := 26, slot := 3, constantValue := 0 }, { name := "CASE_INSENSITIVE_ORDER", type := (.object "java/util/Comparator"), accessFlags := 25, slot := 4, constantValue := 0 }, { name := "LATIN1", type := .byte, accessFlags := 24, slot := 5, constantValue := 0 }, { name := "UTF16", type := .byte, accessFlags := 24, slot := 6, constantValue := 0 }]
  methods := #[k8m0, k8m1, k8m2, k8m3]
  instanceTypes := #[(.array .byte), .byte, .int, .boolean]
  staticTypes := #[.long, .boolean, (.array (.object "java/io/ObjectStreamField")), .char, (.object "java/util/Comparator"), .byte, .byte]
  resolved := Array.replicate 1451 none
  statics := some 0 }

def pool9 : Array CpInfo := pool [(6, .class_ 8), (1, u "java/lang/Object"), (0, u "<init>"), (0, u "()V"), (1, .class_ 14), (1, u "java/lang/StringUTF16"), (31, u "$assertionsDisabled"), (0, u "Z"), (13, u "HI_BYTE_SHIFT"), (0, u "I"), (2, u "LO_BYTE_SHIFT"), (49, .methodref 12 116), (0, .nameAndType 117 118), (0, u "compress"), (0, u "([CI[BII)I"), (3, u "([CII)[B"), (138, u "coderFromArrayLen"), (0, u "([BI)B"), (106, .class_ 371), (1, u "java/lang/StringUTF16$LinesSpliterator"), (58, u "MAX_LENGTH"), (196, .class_ 628), (0, u "java/lang/StringUTF16$CodePointsSpliterator"), (0, .class_ 630), (0, u "java/lang/StringUTF16$CharsSpliterator")] 4

def k9m0 : Method := { name := "<init>", desc := "()V", sig := { parameters := [], returnType := none }, accessFlags := 0, code := none }
def k9c1 : Code := { maxStack := 2, maxLocals := 2, code := jdk_52_method_15_code, exceptionTable := #[], attributes := #[] }
def k9m1 : Method := { name := "coderFromArrayLen", desc := "([BI)B", sig := { parameters := [(.array .byte), .int], returnType := some .byte }, accessFlags := 8, code := some k9c1 }
def k9c2 : Code := { maxStack := 5, maxLocals := 6, code := jdk_52_method_16_code, exceptionTable := #[], attributes := #[] }
def k9m2 : Method := { name := "compress", desc := "([CII)[B", sig := { parameters := [(.array .char), .int, .int], returnType := some (.array .byte) }, accessFlags := 9, code := some k9c2 }
def k9c3 : Code := { maxStack := 3, maxLocals := 7, code := jdk_52_method_21_code, exceptionTable := #[], attributes := #[] }
def k9m3 : Method := { name := "compress", desc := "([CI[BII)I", sig := { parameters := [(.array .char), .int, (.array .byte), .int, .int], returnType := some .int }, accessFlags := 9, code := some k9c3 }
/-- java/lang/StringUTF16 -/
def k9 : Class := { plain "java/lang/StringUTF16" (some 0) with
  accessFlags := 48
  interfaces := #[]
  cf := some (fileOf pool9 12 #[.nestMembers #[627, 629, 369]] #[{ accessFlags := 0, nameIndex := 9, descriptorIndex := 10, attributes := #[] }, { accessFlags := 8, nameIndex := 261, descriptorIndex := 262, attributes := #[] }, { accessFlags := 9, nameIndex := 117, descriptorIndex := 122, attributes := #[] }, { accessFlags := 9, nameIndex := 117, descriptorIndex := 118, attributes := #[] }] 48 6 #[] #[{ accessFlags := 26, nameIndex := 61, descriptorIndex := 62, attributes := #[] }, { accessFlags := 26, nameIndex := 65, descriptorIndex := 62, attributes := #[] }, { accessFlags := 24, nameIndex := 430, descriptorIndex := 62, attributes := #[] }, { accessFlags := 4120, nameIndex := 46, descriptorIndex := 47, attributes := #[] }])
  fields := #[{ name := "HI_BYTE_SHIFT", type := .int, accessFlags := 26, slot := 0, constantValue := 0 }, { name := "LO_BYTE_SHIFT", type := .int, accessFlags := 26, slot := 1, constantValue := 0 }, { name := "MAX_LENGTH", type := .int, accessFlags := 24, slot := 2, constantValue := 0 }, { name := "$assertionsDisabled", type := .boolean, accessFlags := 4120, slot := 3, constantValue := 0 }]
  methods := #[k9m0, k9m1, k9m2, k9m3]
  instanceTypes := #[]
  staticTypes := #[.int, .int, .int, .boolean]
  resolved := Array.replicate 635 none
  statics := none }

def pool10 : Array CpInfo := pool [(2, .class_ 4), (1, u "java/lang/Object"), (0, u "<init>"), (0, u "()V"), (35, .class_ 44), (1, u "java/util/Objects"), (0, u "requireNonNull"), (48, u "(Ljava/lang/Object;Ljava/lang/String;)Ljava/lang/Object;")] 89

def k10m0 : Method := { name := "<init>", desc := "()V", sig := { parameters := [], returnType := none }, accessFlags := 2, code := none }
def k10c1 : Code := { maxStack := 3, maxLocals := 2, code := jdk_31_method_11_code, exceptionTable := #[], attributes := #[] }
def k10m1 : Method := { name := "requireNonNull", desc := "(Ljava/lang/Object;Ljava/lang/String;)Ljava/lang/Object;", sig := { parameters := [(.object "java/lang/Object"), (.object "java/lang/String")], returnType := some (.object "java/lang/Object") }, accessFlags := 9, code := some k10c1 }
/-- java/util/Objects -/
def k10 : Class := { plain "java/util/Objects" (some 0) with
  accessFlags := 49
  interfaces := #[]
  cf := some (fileOf pool10 42 #[] #[{ accessFlags := 2, nameIndex := 5, descriptorIndex := 6, attributes := #[] }, { accessFlags := 9, nameIndex := 45, descriptorIndex := 94, attributes := #[] }] 49 2 #[] #[])
  fields := #[]
  methods := #[k10m0, k10m1]
  instanceTypes := #[]
  staticTypes := #[]
  resolved := Array.replicate 184 none
  statics := none }

def pool11 : Array CpInfo := pool [(4, .class_ 6), (1, u "java/lang/Object"), (0, u "<init>"), (0, u "()V"), (5, .class_ 16), (1, u "java/lang/StringLatin1"), (104, u "$assertionsDisabled"), (0, u "Z"), (98, .class_ 223), (1, u "java/lang/StringLatin1$LinesSpliterator"), (57, u "equals"), (0, u "([B[B)Z"), (107, .class_ 391), (0, u "java/lang/StringLatin1$CharsSpliterator")] 3

def k11m0 : Method := { name := "<init>", desc := "()V", sig := { parameters := [], returnType := none }, accessFlags := 0, code := none }
def k11c1 : Code := { maxStack := 3, maxLocals := 3, code := jdk_43_method_13_code, exceptionTable := #[], attributes := #[] }
def k11m1 : Method := { name := "equals", desc := "([B[B)Z", sig := { parameters := [(.array .byte), (.array .byte)], returnType := some .boolean }, accessFlags := 9, code := some k11c1 }
/-- java/lang/StringLatin1 -/
def k11 : Class := { plain "java/lang/StringLatin1" (some 0) with
  accessFlags := 48
  interfaces := #[]
  cf := some (fileOf pool11 14 #[.nestMembers #[390, 221]] #[{ accessFlags := 0, nameIndex := 7, descriptorIndex := 8, attributes := #[] }, { accessFlags := 9, nameIndex := 281, descriptorIndex := 282, attributes := #[] }] 48 4 #[] #[{ accessFlags := 4120, nameIndex := 121, descriptorIndex := 122, attributes := #[] }])
  fields := #[{ name := "$assertionsDisabled", type := .boolean, accessFlags := 4120, slot := 0, constantValue := 0 }]
  methods := #[k11m0, k11m1]
  instanceTypes := #[]
  staticTypes := #[.boolean]
  resolved := Array.replicate 395 none
  statics := none }

def pool12 : Array CpInfo := pool [(2, .class_ 4), (1, u "java/lang/Object"), (0, u "<init>"), (0, u "()V"), (17, .class_ 26), (1, u "jdk/internal/util/Preconditions"), (28, .class_ 56), (0, u "jdk/internal/util/Preconditions$4"), (57, .class_ 115), (0, u "jdk/internal/util/Preconditions$1"), (7, u "SIOOBE_FORMATTER"), (0, u "Ljava/util/function/BiFunction;"), (0, .class_ 126), (0, u "jdk/internal/util/Preconditions$2"), (3, u "AIOOBE_FORMATTER"), (0, .class_ 132), (0, u "jdk/internal/util/Preconditions$3"), (3, u "IOOBE_FORMATTER")] 57

def k12m0 : Method := { name := "<init>", desc := "()V", sig := { parameters := [], returnType := none }, accessFlags := 1, code := none }
/-- jdk/internal/util/Preconditions -/
def k12 : Class := { plain "jdk/internal/util/Preconditions" (some 0) with
  accessFlags := 33
  interfaces := #[]
  cf := some (fileOf pool12 24 #[.nestMembers #[55, 131, 125, 114]] #[{ accessFlags := 1, nameIndex := 5, descriptorIndex := 6, attributes := #[] }] 33 2 #[] #[{ accessFlags := 25, nameIndex := 123, descriptorIndex := 124, attributes := #[] }, { accessFlags := 25, nameIndex := 130, descriptorIndex := 124, attributes := #[] }, { accessFlags := 25, nameIndex := 136, descriptorIndex := 124, attributes := #[] }])
  fields := #[{ name := "SIOOBE_FORMATTER", type := (.object "java/util/function/BiFunction"), accessFlags := 25, slot := 0, constantValue := 0 }, { name := "AIOOBE_FORMATTER", type := (.object "java/util/function/BiFunction"), accessFlags := 25, slot := 1, constantValue := 0 }, { name := "IOOBE_FORMATTER", type := (.object "java/util/function/BiFunction"), accessFlags := 25, slot := 2, constantValue := 0 }]
  methods := #[k12m0]
  instanceTypes := #[]
  staticTypes := #[(.object "java/util/function/BiFunction"), (.object "java/util/function/BiFunction"), (.object "java/util/function/BiFunction")]
  resolved := Array.replicate 194 none
  statics := some 1 }

def pool13 : Array CpInfo := pool [(9, u "<init>"), (6, .class_ 18), (1, u "java/lang/Object"), (0, u "()V"), (1, .class_ 23), (1, u "jdk/internal/util/ArraysSupport"), (0, u "LOG2_ARRAY_LONG_INDEX_SCALE"), (0, u "I"), (2, u "U"), (0, u "Ljdk/internal/misc/Unsafe;"), (8, u "BIG_ENDIAN"), (0, u "Z"), (8, u "LOG2_BYTE_BIT_SIZE"), (4, u "LOG2_ARRAY_INT_INDEX_SCALE"), (54, u "JLA"), (0, u "Ljdk/internal/access/JavaLangAccess;"), (11, u "LOG2_ARRAY_BOOLEAN_INDEX_SCALE"), (9, u "LOG2_ARRAY_BYTE_INDEX_SCALE"), (5, u "LOG2_ARRAY_CHAR_INDEX_SCALE"), (5, u "LOG2_ARRAY_SHORT_INDEX_SCALE"), (18, u "LOG2_ARRAY_FLOAT_INDEX_SCALE"), (24, u "LOG2_ARRAY_DOUBLE_INDEX_SCALE"), (89, u "T_BOOLEAN"), (2, u "T_CHAR"), (1, u "T_FLOAT"), (1, u "T_DOUBLE"), (1, u "T_BYTE"), (1, u "T_SHORT"), (1, u "T_INT"), (1, u "T_LONG"), (1, u "SOFT_MAX_ARRAY_LENGTH")] 83

def k13m0 : Method := { name := "<init>", desc := "()V", sig := { parameters := [], returnType := none }, accessFlags := 2, code := none }
/-- jdk/internal/util/ArraysSupport -/
def k13 : Class := { plain "jdk/internal/util/ArraysSupport" (some 0) with
  accessFlags := 33
  interfaces := #[]
  cf := some (fileOf pool13 21 #[] #[{ accessFlags := 2, nameIndex := 9, descriptorIndex := 19, attributes := #[] }] 33 16 #[] #[{ accessFlags := 24, nameIndex := 28, descriptorIndex := 29, attributes := #[] }, { accessFlags := 26, nameIndex := 38, descriptorIndex := 39, attributes := #[] }, { accessFlags := 25, nameIndex := 121, descriptorIndex := 25, attributes := #[] }, { accessFlags := 25, nameIndex := 131, descriptorIndex := 25, attributes := #[] }, { accessFlags := 25, nameIndex := 137, descriptorIndex := 25, attributes := #[] }, { accessFlags := 25, nameIndex := 143, descriptorIndex := 25, attributes := #[] }, { accessFlags := 25, nameIndex := 53, descriptorIndex := 25, attributes := #[] }, { accessFlags := 25, nameIndex := 24, descriptorIndex := 25, attributes := #[] }, { accessFlags := 25, nameIndex := 162, descriptorIndex := 25, attributes := #[] }, { accessFlags := 25, nameIndex := 187, descriptorIndex := 25, attributes := #[] }, { accessFlags := 26, nameIndex := 48, descriptorIndex := 25, attributes := #[] }, { accessFlags := 25, nameIndex := 277, descriptorIndex := 25, attributes := #[] }, { accessFlags := 25, nameIndex := 280, descriptorIndex := 25, attributes := #[] }, { accessFlags := 25, nameIndex := 282, descriptorIndex := 25, attributes := #[] }, { accessFlags := 25, nameIndex := 284, descriptorIndex := 25, attributes := #[] }, { accessFlags := 25, nameIndex := 286, descriptorIndex := 25, attributes := #[] }, { accessFlags := 25, nameIndex := 288, descriptorIndex := 25, attributes := #[] }, { accessFlags := 25, nameIndex := 290, descriptorIndex := 25, attributes := #[] }, { accessFlags := 25, nameIndex := 292, descriptorIndex := 25, attributes := #[] }, { accessFlags := 26, nameIndex := 108, descriptorIndex := 109, attributes := #[] }, { accessFlags := 25, nameIndex := 294, descriptorIndex := 25, attributes := #[] }])
  fields := #[{ name := "U", type := (.object "jdk/internal/misc/Unsafe"), accessFlags := 24, slot := 0, constantValue := 0 }, { name := "BIG_ENDIAN", type := .boolean, accessFlags := 26, slot := 1, constantValue := 0 }, { name := "LOG2_ARRAY_BOOLEAN_INDEX_SCALE", type := .int, accessFlags := 25, slot := 2, constantValue := 0 }, { name := "LOG2_ARRAY_BYTE_INDEX_SCALE", type := .int, accessFlags := 25, slot := 3, constantValue := 0 }, { name := "LOG2_ARRAY_CHAR_INDEX_SCALE", type := .int, accessFlags := 25, slot := 4, constantValue := 0 }, { name := "LOG2_ARRAY_SHORT_INDEX_SCALE", type := .int, accessFlags := 25, slot := 5, constantValue := 0 }, { name := "LOG2_ARRAY_INT_INDEX_SCALE", type := .int, accessFlags := 25, slot := 6, constantValue := 0 }, { name := "LOG2_ARRAY_LONG_INDEX_SCALE", type := .int, accessFlags := 25, slot := 7, constantValue := 0 }, { name := "LOG2_ARRAY_FLOAT_INDEX_SCALE", type := .int, accessFlags := 25, slot := 8, constantValue := 0 }, { name := "LOG2_ARRAY_DOUBLE_INDEX_SCALE", type := .int, accessFlags := 25, slot := 9, constantValue := 0 }, { name := "LOG2_BYTE_BIT_SIZE", type := .int, accessFlags := 26, slot := 10, constantValue := 0 }, { name := "T_BOOLEAN", type := .int, accessFlags := 25, slot := 11, constantValue := 0 }, { name := "T_CHAR", type := .int, accessFlags := 25, slot := 12, constantValue := 0 }, { name := "T_FLOAT", type := .int, accessFlags := 25, slot := 13, constantValue := 0 }, { name := "T_DOUBLE", type := .int, accessFlags := 25, slot := 14, constantValue := 0 }, { name := "T_BYTE", type := .int, accessFlags := 25, slot := 15, constantValue := 0 }, { name := "T_SHORT", type := .int, accessFlags := 25, slot := 16, constantValue := 0 }, { name := "T_INT", type := .int, accessFlags := 25, slot := 17, constantValue := 0 }, { name := "T_LONG", type := .int, accessFlags := 25, slot := 18, constantValue := 0 }, { name := "JLA", type := (.object "jdk/internal/access/JavaLangAccess"), accessFlags := 26, slot := 19, constantValue := 0 }, { name := "SOFT_MAX_ARRAY_LENGTH", type := .int, accessFlags := 25, slot := 20, constantValue := 0 }]
  methods := #[k13m0]
  instanceTypes := #[]
  staticTypes := #[(.object "jdk/internal/misc/Unsafe"), .boolean, .int, .int, .int, .int, .int, .int, .int, .int, .int, .int, .int, .int, .int, .int, .int, .int, .int, (.object "jdk/internal/access/JavaLangAccess"), .int]
  resolved := Array.replicate 378 none
  statics := none }

def pool14 : Array CpInfo := pool [(1, u "java/lang/Cloneable"), (0, .class_ 1), (0, u "java/lang/Object"), (0, .class_ 3)] 3

/-- java/lang/Cloneable -/
def k14 : Class := { plain "java/lang/Cloneable" (some 0) with
  accessFlags := 1537
  interfaces := #[]
  cf := some (fileOf pool14 2 #[] #[] 1537 4 #[] #[])
  fields := #[]
  methods := #[]
  instanceTypes := #[]
  staticTypes := #[]
  resolved := Array.replicate 8 none
  statics := none }

/-- the primitive byte -/
def k15 : Class := { plain "byte" none with kind := .primitive 'B', accessFlags := 0x411 }
/-- [B -/
def k16 : Class := { plain "[B" (some 0) with kind := .array 15 .byte, interfaces := #[14, 4], accessFlags := 1041 }

/-- the primitive char -/
def k17 : Class := { plain "char" none with kind := .primitive 'C', accessFlags := 0x411 }
/-- [C -/
def k18 : Class := { plain "[C" (some 0) with kind := .array 17 .char, interfaces := #[14, 4], accessFlags := 1041 }

/-- the primitive int -/
def k19 : Class := { plain "int" none with kind := .primitive 'I', accessFlags := 0x411 }
/-- [I -/
def k20 : Class := { plain "[I" (some 0) with kind := .array 19 .int, interfaces := #[14, 4], accessFlags := 1041 }

def heap : Heap := #[{ cls := 8, slots := #[.long 0, .int 1, .null, .int 0, .null, .int 0, .int 0], vm := .statics 8 },
  { cls := 12, slots := #[.null, .null, .null], vm := .statics 12 }]
def classes : Array Class := #[k0, k1, k2, k3, k4, k5, k6, k7, k8, k9, k10, k11, k12, k13, k14, k15, k16, k17, k18, k19, k20]
def interned : List (Array UInt16 × Addr) := []
def slotsUsed : Nat := 10
def theMethod : MethodId := ⟨1, 5⟩
def args0 : Array Value := #[.int 5, .int 6, .int 7, .int 8, .int 9]
def aboutOver (below : List Frame) : State where
  vm := { classes := classes, interned := interned.toArray }
  heap := heap
  slotsUsed := slotsUsed
  threads := #[{ frames := .invoking theMethod args0 :: below }]
def below0 : List Frame := [.native { method := ⟨0, 0⟩, args := #[] }]
def about1 : State := aboutOver below0
def p0 : Program := .bare "" "" ""
def e0 : Env := launch0.env 0 0 0
theorem w_frames : about1.frames = Frame.invoking theMethod args0 :: below0 := rfl
set_option maxRecDepth 65536 in
theorem w_args : argsFit about1.vm theMethod args0 = true := by decide +kernel
set_option maxRecDepth 65536 in
theorem w_heap : heapFits about1 = true := by decide +kernel
set_option maxRecDepth 65536 in
theorem w_runnable : about1.curStatus? = some .runnable := by decide +kernel
set_option maxRecDepth 65536 in
theorem w_alone : about1.alone = true := by decide +kernel
set_option maxRecDepth 65536 in
theorem w_named : about1.methodNamed? x = some theMethod := by decide +kernel
set_option maxRecDepth 65536 in
theorem w_hears : about1.hears theMethod below0 = true := by decide +kernel
set_option maxRecDepth 65536 in
theorem w_ripe : about1.ripe theMethod args0 below0 = true := by decide +kernel
theorem w_running : about1.status = .running := rfl
set_option maxRecDepth 65536 in
theorem w_room : about1.hasRoom e0.platform room_1 = true :=
  launch0.hasRoom_least _ room_1 (by decide +kernel) (by decide +kernel) (by decide +kernel) (by decide +kernel) (by decide +kernel) (by decide +kernel)
theorem allAtoms_all (ts : List Jvm.Cond) (a : Array Jvm.Value) (st : Jvm.State) : (allAtoms ts).before a st = ts.all (fun c => c.before a st) := by
  induction ts with
  | nil => rfl
  | cons c t ih =>
    show (Jvm.Cond.and c (allAtoms t)).before a st = _
    rw [Jvm.Cond.before_and, ih, List.all_cons]
def words1 : List Jvm.Cond := Jvm.Cond.code x code maxLocals ret :: tables_1
/-- a 'code' word, met by the world's own term for the bytes: nothing is compared byte by byte -/
theorem code_word {y : MethodName} {bytes : ByteArray} {mx : Nat} {rt : Option FieldType} {a : Array Value} {s : State} {m : MethodId} {meth : Method} {c : Code} (h1 : s.methodNamed? y = some m) (h2 : s.vm.method? m = some meth) (h3 : meth.code = some c) (h4 : c.code = bytes)
    (h5 : (c.maxLocals == mx && c.exceptionTable.isEmpty && decide (c.maxStack ≤ mostOperands) && decide (meth.sig.returnType = rt) && !meth.locks && decide (parseMethodDescriptor y.desc = some meth.sig)) = true) : (Jvm.Cond.code y bytes mx rt).before a s = true := by
  simp only [Bool.and_eq_true, beq_iff_eq, Bool.not_eq_true', decide_eq_true_eq] at h5
  obtain ⟨⟨⟨⟨⟨g1, g2⟩, g3⟩, g4⟩, g5⟩, g6⟩ := h5
  simp [Cond.before, Cond.holds, Cond.value, h1, h2, h3, h4, g1, g2, g3, g4, g5, g6]
def isCode : Jvm.Cond → Bool
  | .code _ _ _ _ => true
  | _ => false
theorem all_split {L : List Jvm.Cond} {P : Jvm.Cond → Bool} (h1 : L.all (fun c => isCode c || P c) = true) (h2 : ∀ c ∈ L.filter isCode, P c = true) : L.all P = true := by
  refine List.all_eq_true.mpr fun c hc => ?_
  have h := List.all_eq_true.mp h1 c hc
  rcases Bool.eq_false_or_eq_true (isCode c) with hi | hi
  · exact h2 c (List.mem_filter.mpr ⟨hc, hi⟩)
  · simpa [hi] using h
set_option maxRecDepth 65536 in
theorem w_c0 : (Jvm.Cond.code x code maxLocals ret).before args0 about1 = true := code_word (m := ⟨1, 5⟩) (meth := k1m5) (c := k1c5) (by decide +kernel) rfl rfl rfl (by decide +kernel)
set_option maxRecDepth 65536 in
theorem w_c1 : (Jvm.Cond.code ({ cls := "com/example/vertumnus/vertumnus/TableNameEqualsPinLaw", name := "mk", desc := "(I)Ljava/lang/String;" } : Jvm.MethodName) method_4_code (3 : Nat) (Option.some (Jvm.ClassFile.FieldType.object "java/lang/String"))).before args0 about1 = true := code_word (m := ⟨1, 3⟩) (meth := k1m3) (c := k1c3) (by decide +kernel) rfl rfl rfl (by decide +kernel)
set_option maxRecDepth 65536 in
theorem w_c2 : (Jvm.Cond.code ({ cls := "com/example/vertumnus/vertumnus/TableNameEqualsPinLaw", name := "len", desc := "(I)I" } : Jvm.MethodName) method_2_code (1 : Nat) (Option.some Jvm.ClassFile.FieldType.int)).before args0 about1 = true := code_word (m := ⟨1, 1⟩) (meth := k1m1) (c := k1c1) (by decide +kernel) rfl rfl rfl (by decide +kernel)
set_option maxRecDepth 65536 in
theorem w_c3 : (Jvm.Cond.code ({ cls := "java/lang/String", name := "<init>", desc := "([C)V" } : Jvm.MethodName) jdk_42_method_3_code (2 : Nat) (Option.none : Option Jvm.ClassFile.FieldType)).before args0 about1 = true := code_word (m := ⟨8, 1⟩) (meth := k8m1) (c := k8c1) (by decide +kernel) rfl rfl rfl (by decide +kernel)
set_option maxRecDepth 65536 in
theorem w_c4 : (Jvm.Cond.code ({ cls := "java/lang/String", name := "<init>", desc := "([CIILjava/lang/Void;)V" } : Jvm.MethodName) jdk_42_method_149_code (6 : Nat) (Option.none : Option Jvm.ClassFile.FieldType)).before args0 about1 = true := code_word (m := ⟨8, 3⟩) (meth := k8m3) (c := k8c3) (by decide +kernel) rfl rfl rfl (by decide +kernel)
set_option maxRecDepth 65536 in
theorem w_c5 : (Jvm.Cond.code ({ cls := "java/lang/Object", name := "<init>", desc := "()V" } : Jvm.MethodName) object_method_1_code (1 : Nat) (Option.none : Option Jvm.ClassFile.FieldType)).before args0 about1 = true := code_word (m := ⟨0, 0⟩) (meth := k0m0) (c := k0c0) (by decide +kernel) rfl rfl rfl (by decide +kernel)
set_option maxRecDepth 65536 in
theorem w_c6 : (Jvm.Cond.code ({ cls := "com/example/vertumnus/vertumnus/TableNameEqualsPinLaw", name := "ch", desc := "(II)I" } : Jvm.MethodName) method_3_code (2 : Nat) (Option.some Jvm.ClassFile.FieldType.int)).before args0 about1 = true := code_word (m := ⟨1, 2⟩) (meth := k1m2) (c := k1c2) (by decide +kernel) rfl rfl rfl (by decide +kernel)
set_option maxRecDepth 65536 in
theorem w_c7 : (Jvm.Cond.code ({ cls := "java/lang/StringUTF16", name := "compress", desc := "([CII)[B" } : Jvm.MethodName) jdk_52_method_16_code (6 : Nat) (Option.some (Jvm.ClassFile.FieldType.array Jvm.ClassFile.FieldType.byte))).before args0 about1 = true := code_word (m := ⟨9, 2⟩) (meth := k9m2) (c := k9c2) (by decide +kernel) rfl rfl rfl (by decide +kernel)
set_option maxRecDepth 65536 in
theorem w_c8 : (Jvm.Cond.code ({ cls := "java/lang/StringUTF16", name := "compress", desc := "([CI[BII)I" } : Jvm.MethodName) jdk_52_method_21_code (7 : Nat) (Option.some Jvm.ClassFile.FieldType.int)).before args0 about1 = true := code_word (m := ⟨9, 3⟩) (meth := k9m3) (c := k9c3) (by decide +kernel) rfl rfl rfl (by decide +kernel)
set_option maxRecDepth 65536 in
theorem w_c9 : (Jvm.Cond.code ({ cls := "java/lang/StringUTF16", name := "coderFromArrayLen", desc := "([BI)B" } : Jvm.MethodName) jdk_52_method_15_code (2 : Nat) (Option.some Jvm.ClassFile.FieldType.byte)).before args0 about1 = true := code_word (m := ⟨9, 1⟩) (meth := k9m1) (c := k9c1) (by decide +kernel) rfl rfl rfl (by decide +kernel)
set_option maxRecDepth 65536 in
theorem w_c10 : (Jvm.Cond.code ({ cls := "com/example/vertumnus/vertumnus/TableName", name := "<init>", desc := "(Ljava/lang/String;Ljava/lang/String;)V" } : Jvm.MethodName) prog_8_method_1_code (3 : Nat) (Option.none : Option Jvm.ClassFile.FieldType)).before args0 about1 = true := code_word (m := ⟨3, 0⟩) (meth := k3m0) (c := k3c0) (by decide +kernel) rfl rfl rfl (by decide +kernel)
set_option maxRecDepth 65536 in
theorem w_c11 : (Jvm.Cond.code ({ cls := "java/util/Objects", name := "requireNonNull", desc := "(Ljava/lang/Object;Ljava/lang/String;)Ljava/lang/Object;" } : Jvm.MethodName) jdk_31_method_11_code (2 : Nat) (Option.some (Jvm.ClassFile.FieldType.object "java/lang/Object"))).before args0 about1 = true := code_word (m := ⟨10, 1⟩) (meth := k10m1) (c := k10c1) (by decide +kernel) rfl rfl rfl (by decide +kernel)
set_option maxRecDepth 65536 in
theorem w_c12 : (Jvm.Cond.code ({ cls := "com/example/vertumnus/vertumnus/TableNameEqualsPinLaw", name := "same", desc := "(II)Z" } : Jvm.MethodName) method_5_code (4 : Nat) (Option.some Jvm.ClassFile.FieldType.boolean)).before args0 about1 = true := code_word (m := ⟨1, 4⟩) (meth := k1m4) (c := k1c4) (by decide +kernel) rfl rfl rfl (by decide +kernel)
set_option maxRecDepth 65536 in
theorem w_c13 : (Jvm.Cond.code ({ cls := "com/example/vertumnus/vertumnus/TableName", name := "equals", desc := "(Ljava/lang/Object;)Z" } : Jvm.MethodName) prog_8_method_6_code (2 : Nat) (Option.some Jvm.ClassFile.FieldType.boolean)).before args0 about1 = true := code_word (m := ⟨3, 1⟩) (meth := k3m1) (c := k3c1) (by decide +kernel) rfl rfl rfl (by decide +kernel)
set_option maxRecDepth 65536 in
theorem w_c14 : (Jvm.Cond.code ({ cls := "java/lang/String", name := "equals", desc := "(Ljava/lang/Object;)Z" } : Jvm.MethodName) jdk_42_method_66_code (3 : Nat) (Option.some Jvm.ClassFile.FieldType.boolean)).before args0 about1 = true := code_word (m := ⟨8, 2⟩) (meth := k8m2) (c := k8c2) (by decide +kernel) rfl rfl rfl (by decide +kernel)
set_option maxRecDepth 65536 in
theorem w_c15 : (Jvm.Cond.code ({ cls := "java/lang/StringLatin1", name := "equals", desc := "([B[B)Z" } : Jvm.MethodName) jdk_43_method_13_code (3 : Nat) (Option.some Jvm.ClassFile.FieldType.boolean)).before args0 about1 = true := code_word (m := ⟨11, 1⟩) (meth := k11m1) (c := k11c1) (by decide +kernel) rfl rfl rfl (by decide +kernel)
def codes1 : List Jvm.Cond := [Jvm.Cond.code x code maxLocals ret, Jvm.Cond.code ({ cls := "com/example/vertumnus/vertumnus/TableNameEqualsPinLaw", name := "mk", desc := "(I)Ljava/lang/String;" } : Jvm.MethodName) method_4_code (3 : Nat) (Option.some (Jvm.ClassFile.FieldType.object "java/lang/String")), Jvm.Cond.code ({ cls := "com/example/vertumnus/vertumnus/TableNameEqualsPinLaw", name := "len", desc := "(I)I" } : Jvm.MethodName) method_2_code (1 : Nat) (Option.some Jvm.ClassFile.FieldType.int), Jvm.Cond.code ({ cls := "java/lang/String", name := "<init>", desc := "([C)V" } : Jvm.MethodName) jdk_42_method_3_code (2 : Nat) (Option.none : Option Jvm.ClassFile.FieldType), Jvm.Cond.code ({ cls := "java/lang/String", name := "<init>", desc := "([CIILjava/lang/Void;)V" } : Jvm.MethodName) jdk_42_method_149_code (6 : Nat) (Option.none : Option Jvm.ClassFile.FieldType), Jvm.Cond.code ({ cls := "java/lang/Object", name := "<init>", desc := "()V" } : Jvm.MethodName) object_method_1_code (1 : Nat) (Option.none : Option Jvm.ClassFile.FieldType), Jvm.Cond.code ({ cls := "com/example/vertumnus/vertumnus/TableNameEqualsPinLaw", name := "ch", desc := "(II)I" } : Jvm.MethodName) method_3_code (2 : Nat) (Option.some Jvm.ClassFile.FieldType.int), Jvm.Cond.code ({ cls := "java/lang/StringUTF16", name := "compress", desc := "([CII)[B" } : Jvm.MethodName) jdk_52_method_16_code (6 : Nat) (Option.some (Jvm.ClassFile.FieldType.array Jvm.ClassFile.FieldType.byte)), Jvm.Cond.code ({ cls := "java/lang/StringUTF16", name := "compress", desc := "([CI[BII)I" } : Jvm.MethodName) jdk_52_method_21_code (7 : Nat) (Option.some Jvm.ClassFile.FieldType.int), Jvm.Cond.code ({ cls := "java/lang/StringUTF16", name := "coderFromArrayLen", desc := "([BI)B" } : Jvm.MethodName) jdk_52_method_15_code (2 : Nat) (Option.some Jvm.ClassFile.FieldType.byte), Jvm.Cond.code ({ cls := "com/example/vertumnus/vertumnus/TableName", name := "<init>", desc := "(Ljava/lang/String;Ljava/lang/String;)V" } : Jvm.MethodName) prog_8_method_1_code (3 : Nat) (Option.none : Option Jvm.ClassFile.FieldType), Jvm.Cond.code ({ cls := "java/util/Objects", name := "requireNonNull", desc := "(Ljava/lang/Object;Ljava/lang/String;)Ljava/lang/Object;" } : Jvm.MethodName) jdk_31_method_11_code (2 : Nat) (Option.some (Jvm.ClassFile.FieldType.object "java/lang/Object")), Jvm.Cond.code ({ cls := "com/example/vertumnus/vertumnus/TableNameEqualsPinLaw", name := "same", desc := "(II)Z" } : Jvm.MethodName) method_5_code (4 : Nat) (Option.some Jvm.ClassFile.FieldType.boolean), Jvm.Cond.code ({ cls := "com/example/vertumnus/vertumnus/TableName", name := "equals", desc := "(Ljava/lang/Object;)Z" } : Jvm.MethodName) prog_8_method_6_code (2 : Nat) (Option.some Jvm.ClassFile.FieldType.boolean), Jvm.Cond.code ({ cls := "java/lang/String", name := "equals", desc := "(Ljava/lang/Object;)Z" } : Jvm.MethodName) jdk_42_method_66_code (3 : Nat) (Option.some Jvm.ClassFile.FieldType.boolean), Jvm.Cond.code ({ cls := "java/lang/StringLatin1", name := "equals", desc := "([B[B)Z" } : Jvm.MethodName) jdk_43_method_13_code (3 : Nat) (Option.some Jvm.ClassFile.FieldType.boolean)]
set_option maxRecDepth 65536 in
theorem codes_eq : words1.filter isCode = codes1 := rfl
theorem w_codes : ∀ c ∈ words1.filter isCode, c.before args0 about1 = true := by
  rw [codes_eq]
  intro c hc
  simp only [codes1, List.mem_cons, List.not_mem_nil, or_false] at hc
  rcases hc with rfl | rfl | rfl | rfl | rfl | rfl | rfl | rfl | rfl | rfl | rfl | rfl | rfl | rfl | rfl | rfl
  · exact w_c0
  · exact w_c1
  · exact w_c2
  · exact w_c3
  · exact w_c4
  · exact w_c5
  · exact w_c6
  · exact w_c7
  · exact w_c8
  · exact w_c9
  · exact w_c10
  · exact w_c11
  · exact w_c12
  · exact w_c13
  · exact w_c14
  · exact w_c15
set_option maxRecDepth 65536 in
theorem w_t1 : (words1.take 24).all (fun c => isCode c || c.before args0 about1) = true := by decide +kernel
set_option maxRecDepth 65536 in
theorem w_t2 : ((words1.drop 24).take 24).all (fun c => isCode c || c.before args0 about1) = true := by decide +kernel
set_option maxRecDepth 65536 in
theorem w_t3 : (((words1.drop 24).drop 24).take 24).all (fun c => isCode c || c.before args0 about1) = true := by decide +kernel
set_option maxRecDepth 65536 in
theorem w_t4 : (((words1.drop 24).drop 24).drop 24).all (fun c => isCode c || c.before args0 about1) = true := by decide +kernel
theorem w_tables : (allAtoms (Jvm.Cond.code x code maxLocals ret :: tables_1)).before args0 about1 = true := by
  rw [allAtoms_all]
  show words1.all (fun c => c.before args0 about1) = true
  refine all_split ?_ w_codes
  rw [← List.take_append_drop 24 words1, List.all_append, w_t1, ← List.take_append_drop 24 (words1.drop 24), List.all_append, w_t2, ← List.take_append_drop 24 ((words1.drop 24).drop 24), List.all_append, w_t3, w_t4]
  rfl
set_option maxRecDepth 65536 in
theorem w_rest : rest_1_c.before args0 about1 = true := by decide +kernel
set_option maxRecDepth 65536 in
theorem w_case : (Jvm.Cond.and given_1 narrow_1).before args0 about1 = true := by decide +kernel
set_option maxRecDepth 65536 in
theorem w_consts : constsHeld consts_1 about1 := Jvm.Lit.constsHeldB_iff.mp (by decide +kernel)
theorem w_applies : (headSpec (Jvm.Cond.code x code maxLocals ret :: tables_1) room_1).applies x e0.platform about1 = true :=
  (Spec.applies_iff w_frames).mpr ⟨w_running, w_runnable, w_alone, w_named, w_hears, w_ripe, w_room, w_tables⟩
theorem atStart : AtStart classFile x code maxLocals ret World_1 tables_1 room_1 Calls_1 rest_1 Pre_1 launch0 p0 e0 about1 theMethod args0 below0 :=
  ⟨lists_1, trivial, launch0.admits_env _ _ _, launch0.least_env, fairChoices_fair.cas, fairChoices_fair.clock, w_frames, w_args, w_heap, w_applies, ⟨w_consts, trivial⟩, w_rest, w_case⟩
end start1
theorem witness_1 : WitnessClaimed_1 := ⟨start1.p0, start1.e0, start1.about1, start1.theMethod, start1.args0, start1.below0, start1.atStart⟩
end Jvm.Pilot.@@N@@
