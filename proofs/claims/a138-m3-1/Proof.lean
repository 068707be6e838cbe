import JvmDerived
import JvmDerived.Pilot.@@N@@Statement
import JvmDerived.Pilot.@@N@@Code
set_option linter.unusedVariables false
set_option linter.unusedSimpArgs false
@@BLOCK:NumsL.lean.txt@@
namespace Jvm.RoadKit
open Sem ClassFile Op Lib Jvm.Stand Jvm.Free Jvm.LawKit
section New
variable {p : Program} {l : Launch} {e : Env} {R : Room} {s : State} {m : MethodId} {args : Array Value} {below : List Frame} {meth : Method} {c : Code} {T : State} {locs : List Loc} {cells slots : Nat}
theorem retI (X : Stand p l e R s m args below meth c T locs cells slots) (hx : p.tables.exec = Jvm.exec) {pc : Nat} {Ls : Array Slot} {z : Int32} {rest : List Value} (hret : meth.sig.returnType = some .int) (hd : decode c.code pc = .ok (.ireturn, 1)) {fs : List Frame}
    (hl : ∀ (f : JFrame) (acts : List Action), f.method = m → f.locked = none → f.entered = [] → (doReturn e (T.setTop f) acts (some (.int z))).1 = T.setFrames fs) : Steps p.tables e below (T.setTop (mkF m pc Ls (.int z :: rest))) (T.setFrames fs) := by
  have hm' : T.vm.method? m = some meth := X.method'
  have hn : narrow .int (.int z) = .int z := rfl
  show Steps p.tables e below (T.setTop { method := m, pc := pc, locals := Ls, stack := _ :: rest, locked := none }) _
  jvm_step X.here [X.here.top, hx, hd, hm', hret, hn]
  first | (intro acts; rw [hl _ acts rfl rfl rfl]) | rw [hl _ _ rfl rfl rfl]
  exact Steps.refl _
end New
end Jvm.RoadKit
namespace Jvm.Pilot.@@N@@
open Jvm Jvm.ClassFile Sem Op Lib Jvm.Free Jvm.Stand Jvm.LawKit Jvm.RoadKit Bundle Jvm.Pilot.@@N@@.Jvm.D
theorem pn_0 : plainName "com/example/vertumnus/vertumnus/Partitions" = true := by first | (simp [plainName, overriddenIn]; done) | decide +kernel
theorem pd_0 : parseMethodDescriptor "(I)I" = some ⟨[.int], some .int⟩ := by decide +kernel
theorem pd_1 : parseMethodDescriptor "(II)I" = some ⟨[.int, .int], some .int⟩ := by decide +kernel
theorem pn_1 : plainName "com/example/vertumnus/vertumnus/PartitionsLinkPinLaw" = true := by first | (simp [plainName, overriddenIn]; done) | decide +kernel
theorem pd_2 : parseMethodDescriptor "(I)V" = some ⟨[.int], none⟩ := by decide +kernel
theorem pd_3 : parseMethodDescriptor "(II)V" = some ⟨[.int, .int], none⟩ := by decide +kernel
theorem pd_4 : parseMethodDescriptor "([I[III)V" = some ⟨[(.array .int), (.array .int), .int, .int], none⟩ := by decide +kernel
theorem pd_5 : parseMethodDescriptor "()I" = some ⟨[], some .int⟩ := by decide +kernel
theorem d5_0 : decode jdk_29_method_65_code 0 = .ok (.iload_n 0, 1) := by decide +kernel
theorem d5_1 : decode jdk_29_method_65_code 1 = .ok (.iload_n 1, 1) := by decide +kernel
theorem d5_2 : decode jdk_29_method_65_code 2 = .ok (.if_icmp .lt 7, 3) := by decide +kernel
theorem d5_5 : decode jdk_29_method_65_code 5 = .ok (.iload_n 0, 1) := by decide +kernel
theorem d5_6 : decode jdk_29_method_65_code 6 = .ok (.goto 4, 3) := by decide +kernel
theorem d5_9 : decode jdk_29_method_65_code 9 = .ok (.iload_n 1, 1) := by decide +kernel
theorem d5_10 : decode jdk_29_method_65_code 10 = .ok (.ireturn, 1) := by decide +kernel
def own_f5 (p1 : Int32) (p2 : Int32) : Int32 := (if p1 < p2 then p2 else p1)
def Q5 (p1 : Int32) (p2 : Int32) (h0 : Heap) (n0 : Nat) (v : Option Value) (h : Heap) (L : List Loc) : Prop := v = some (.int (own_f5 p1 p2)) ∧ Fr n0 L ∧ h = h0
theorem ef_5 (m : MethodId) (x0 : Int32) (x1 : Int32) : entryFrame m #[(.int x0), (.int x1)] 2 = mkF m 0 #[.val (.int x0), .val (.int x1)] [] := by first | (simp [entryFrame, mkF, argsToLocals, Value.category]; done) | rfl
set_option maxRecDepth 65536 in
set_option maxHeartbeats 40000000 in
theorem rm5 (l : Launch) (Z : State) (a0 : Array Value) (hw : ∀ d ∈ tables_1, d.before a0 Z = true) (ws : List Jvm.Cond) (p1 : Int32) (p2 : Int32) (h0 : Heap) (n0 : Nat) :
    MetFree l (⟨"java/lang/Math", "max", "(II)I"⟩ : MethodName) (head1 (Jvm.Cond.code (⟨"java/lang/Math", "max", "(II)I"⟩ : MethodName) jdk_29_method_65_code 2 (some .int) :: ws) ({ frames := 0, cells := 0, slots := 0, locals := 0 } : Room)) (fun a U => a = #[(.int p1), (.int p2)] ∧ Z.Warmed39 U.vm ∧ U.heap = h0) (fun _ _ _ _ _ => True) (fun _ U o U' => ∃ v L, o = .returned v ∧ Q5 p1 p2 h0 n0 v U'.heap L ∧ FrameEnd U o U' L ({ frames := 0, cells := 0, slots := 0, locals := 0 } : Room).cells ({ frames := 0, cells := 0, slots := 0, locals := 0 } : Room).slots) := by
  refine MetFree.of_bodySF (Jvm.Free.JP.mathPlain rfl (by decide +kernel)) hisR ?_
  intro p e s m args below meth c s₁ Bd hml0 hP hK
  obtain ⟨rfl, hZ, hh⟩ := hP
  have hx := Bd.exec
  have hby := Bd.bytes
  have hml : c.maxLocals = 2 := hml0
  have hown : s.vm.findClass "java/lang/Math" = some m.cls := findClass_of_methodNamed Bd.named
  have hnm := (name_of_methodNamed Bd.named Bd.method).1
  have X0 : Stand p l e ({ frames := 0, cells := 0, slots := 0, locals := 0 } : Room) s m #[(.int p1), (.int p2)] below meth c s₁ [] 0 0 := Stand.of_body Bd
  have e0 : s₁.heap = h0 := by rw [← hh, Bd.state]; rfl
  have N0 := Fr.nil n0
  have pre0 : ∀ t, Steps p.tables e below (s₁.setTop (mkF m 0 #[.val (.int p1), .val (.int p2)] [])) t → Steps p.tables e below (s₁.setTop (entryFrame m #[(.int p1), (.int p2)] 2)) t := fun t k => castTop (ef_5 m p1 p2) k
  obtain ⟨fs, hr, hrun, hended, hW, hsame⟩ := X0.leave (v := some (.int (own_f5 p1 p2))) (fun h => by rw [Bd.returns] at h; cases h)
  refine ⟨_, _, pre0 _ ?_, hrun, hended, _, _, rfl, ?_, ⟨_, rfl⟩, hW, hsame.mono (by decide) (by decide)⟩
  · skip
    have J0 : ∀ (hv : own_f5 p1 p2 = own_f5 p1 p2 ), Steps p.tables e below (s₁.setTop (mkF m 0 #[.val (.int p1), .val (.int p2)] [])) (s₁.setFrames fs) := by
      intro hv
      show Steps p.tables e below (s₁.setTop (mkF m 0 #[.val (.int p1), .val (.int p2)] [])) _
      refine XS.iloadN X0.here hx rfl (hb hby d5_0) rfl ?_
      show Steps p.tables e below (s₁.setTop (mkF m 1 #[.val (.int p1), .val (.int p2)] [(.int p1)])) _
      refine XS.iloadN X0.here hx rfl (hb hby d5_1) rfl ?_
      show Steps p.tables e below (s₁.setTop (mkF m 2 #[.val (.int p1), .val (.int p2)] [(.int p2), (.int p1)])) _
      by_cases hc2 : p1 < p2
      · replace hv := hv.trans (if_pos hc2)
        refine XS.icmpYes X0.here hx rfl (pc0 := 2) (pc' := 9) rfl (hb hby d5_2) rfl (tlt hc2).1 (by decide) (by decide) ?_
        show Steps p.tables e below (s₁.setTop (mkF m 9 #[.val (.int p1), .val (.int p2)] [])) _
        refine XS.iloadN X0.here hx rfl (hb hby d5_9) rfl ?_
        show Steps p.tables e below (s₁.setTop (mkF m 10 #[.val (.int p1), .val (.int p2)] [(.int p2)])) _
        rw [hv] at hr
        exact retI X0 hx Bd.returns (hb hby d5_10) hr
      · replace hv := hv.trans (if_neg hc2)
        refine XS.icmpNo X0.here hx rfl (hb hby d5_2) rfl (flt hc2).1 ?_
        show Steps p.tables e below (s₁.setTop (mkF m 5 #[.val (.int p1), .val (.int p2)] [])) _
        refine XS.iloadN X0.here hx rfl (hb hby d5_5) rfl ?_
        show Steps p.tables e below (s₁.setTop (mkF m 6 #[.val (.int p1), .val (.int p2)] [(.int p1)])) _
        refine XS.goto X0.here hx rfl (pc0 := 6) (pc' := 10) rfl (hb hby d5_6) (by decide) (by decide) ?_
        show Steps p.tables e below (s₁.setTop (mkF m 10 #[.val (.int p1), .val (.int p2)] [(.int p1)])) _
        rw [hv] at hr
        exact retI X0 hx Bd.returns (hb hby d5_10) hr
    exact J0 rfl
  · show Q5 p1 p2 h0 n0 _ s₁.heap _
    rw [e0]
    exact ⟨rfl, N0, rfl⟩
theorem d6_0 : decode jdk_29_method_69_code 0 = .ok (.iload_n 0, 1) := by decide +kernel
theorem d6_1 : decode jdk_29_method_69_code 1 = .ok (.iload_n 1, 1) := by decide +kernel
theorem d6_2 : decode jdk_29_method_69_code 2 = .ok (.if_icmp .gt 7, 3) := by decide +kernel
theorem d6_5 : decode jdk_29_method_69_code 5 = .ok (.iload_n 0, 1) := by decide +kernel
theorem d6_6 : decode jdk_29_method_69_code 6 = .ok (.goto 4, 3) := by decide +kernel
theorem d6_9 : decode jdk_29_method_69_code 9 = .ok (.iload_n 1, 1) := by decide +kernel
theorem d6_10 : decode jdk_29_method_69_code 10 = .ok (.ireturn, 1) := by decide +kernel
def own_f6 (p1 : Int32) (p2 : Int32) : Int32 := (if p2 < p1 then p2 else p1)
def Q6 (p1 : Int32) (p2 : Int32) (h0 : Heap) (n0 : Nat) (v : Option Value) (h : Heap) (L : List Loc) : Prop := v = some (.int (own_f6 p1 p2)) ∧ Fr n0 L ∧ h = h0
theorem ef_6 (m : MethodId) (x0 : Int32) (x1 : Int32) : entryFrame m #[(.int x0), (.int x1)] 2 = mkF m 0 #[.val (.int x0), .val (.int x1)] [] := by first | (simp [entryFrame, mkF, argsToLocals, Value.category]; done) | rfl
set_option maxRecDepth 65536 in
set_option maxHeartbeats 40000000 in
theorem rm6 (l : Launch) (Z : State) (a0 : Array Value) (hw : ∀ d ∈ tables_1, d.before a0 Z = true) (ws : List Jvm.Cond) (p1 : Int32) (p2 : Int32) (h0 : Heap) (n0 : Nat) :
    MetFree l (⟨"java/lang/Math", "min", "(II)I"⟩ : MethodName) (head1 (Jvm.Cond.code (⟨"java/lang/Math", "min", "(II)I"⟩ : MethodName) jdk_29_method_69_code 2 (some .int) :: ws) ({ frames := 0, cells := 0, slots := 0, locals := 0 } : Room)) (fun a U => a = #[(.int p1), (.int p2)] ∧ Z.Warmed39 U.vm ∧ U.heap = h0) (fun _ _ _ _ _ => True) (fun _ U o U' => ∃ v L, o = .returned v ∧ Q6 p1 p2 h0 n0 v U'.heap L ∧ FrameEnd U o U' L ({ frames := 0, cells := 0, slots := 0, locals := 0 } : Room).cells ({ frames := 0, cells := 0, slots := 0, locals := 0 } : Room).slots) := by
  refine MetFree.of_bodySF (Jvm.Free.JP.mathPlain rfl (by decide +kernel)) hisR ?_
  intro p e s m args below meth c s₁ Bd hml0 hP hK
  obtain ⟨rfl, hZ, hh⟩ := hP
  have hx := Bd.exec
  have hby := Bd.bytes
  have hml : c.maxLocals = 2 := hml0
  have hown : s.vm.findClass "java/lang/Math" = some m.cls := findClass_of_methodNamed Bd.named
  have hnm := (name_of_methodNamed Bd.named Bd.method).1
  have X0 : Stand p l e ({ frames := 0, cells := 0, slots := 0, locals := 0 } : Room) s m #[(.int p1), (.int p2)] below meth c s₁ [] 0 0 := Stand.of_body Bd
  have e0 : s₁.heap = h0 := by rw [← hh, Bd.state]; rfl
  have N0 := Fr.nil n0
  have pre0 : ∀ t, Steps p.tables e below (s₁.setTop (mkF m 0 #[.val (.int p1), .val (.int p2)] [])) t → Steps p.tables e below (s₁.setTop (entryFrame m #[(.int p1), (.int p2)] 2)) t := fun t k => castTop (ef_6 m p1 p2) k
  obtain ⟨fs, hr, hrun, hended, hW, hsame⟩ := X0.leave (v := some (.int (own_f6 p1 p2))) (fun h => by rw [Bd.returns] at h; cases h)
  refine ⟨_, _, pre0 _ ?_, hrun, hended, _, _, rfl, ?_, ⟨_, rfl⟩, hW, hsame.mono (by decide) (by decide)⟩
  · skip
    have J0 : ∀ (hv : own_f6 p1 p2 = own_f6 p1 p2 ), Steps p.tables e below (s₁.setTop (mkF m 0 #[.val (.int p1), .val (.int p2)] [])) (s₁.setFrames fs) := by
      intro hv
      show Steps p.tables e below (s₁.setTop (mkF m 0 #[.val (.int p1), .val (.int p2)] [])) _
      refine XS.iloadN X0.here hx rfl (hb hby d6_0) rfl ?_
      show Steps p.tables e below (s₁.setTop (mkF m 1 #[.val (.int p1), .val (.int p2)] [(.int p1)])) _
      refine XS.iloadN X0.here hx rfl (hb hby d6_1) rfl ?_
      show Steps p.tables e below (s₁.setTop (mkF m 2 #[.val (.int p1), .val (.int p2)] [(.int p2), (.int p1)])) _
      by_cases hc2 : p2 < p1
      · replace hv := hv.trans (if_pos hc2)
        refine XS.icmpYes X0.here hx rfl (pc0 := 2) (pc' := 9) rfl (hb hby d6_2) rfl (tlt hc2).2.2.1 (by decide) (by decide) ?_
        show Steps p.tables e below (s₁.setTop (mkF m 9 #[.val (.int p1), .val (.int p2)] [])) _
        refine XS.iloadN X0.here hx rfl (hb hby d6_9) rfl ?_
        show Steps p.tables e below (s₁.setTop (mkF m 10 #[.val (.int p1), .val (.int p2)] [(.int p2)])) _
        rw [hv] at hr
        exact retI X0 hx Bd.returns (hb hby d6_10) hr
      · replace hv := hv.trans (if_neg hc2)
        refine XS.icmpNo X0.here hx rfl (hb hby d6_2) rfl (flt hc2).2.2.1 ?_
        show Steps p.tables e below (s₁.setTop (mkF m 5 #[.val (.int p1), .val (.int p2)] [])) _
        refine XS.iloadN X0.here hx rfl (hb hby d6_5) rfl ?_
        show Steps p.tables e below (s₁.setTop (mkF m 6 #[.val (.int p1), .val (.int p2)] [(.int p1)])) _
        refine XS.goto X0.here hx rfl (pc0 := 6) (pc' := 10) rfl (hb hby d6_6) (by decide) (by decide) ?_
        show Steps p.tables e below (s₁.setTop (mkF m 10 #[.val (.int p1), .val (.int p2)] [(.int p1)])) _
        rw [hv] at hr
        exact retI X0 hx Bd.returns (hb hby d6_10) hr
    exact J0 rfl
  · show Q6 p1 p2 h0 n0 _ s₁.heap _
    rw [e0]
    exact ⟨rfl, N0, rfl⟩

def own_l (f : Nat → Nat) : List Value := [.int (Int32.ofNat (f 0)), .int (Int32.ofNat (f 1)), .int (Int32.ofNat (f 2)), .int (Int32.ofNat (f 3))]
def own_upd (f : Nat → Nat) (c v : Nat) : Nat → Nat := fun i => if i = c then v else f i
def own_lk (r : Nat → Nat) (i j : Nat) : Nat → Nat := fun k => if r k = max (r i) (r j) then min (r i) (r j) else r k
def own_Inv (ps r : Nat → Nat) : Prop := (∀ i, i < 4 → ps i ≤ i) ∧ (∀ i, i < 4 → r (ps i) = r i) ∧ (∀ i, i < 4 → ps i = i → r i = i) ∧ (∀ i, i < 4 → r i < 4) ∧ (∀ i, i < 4 → r (r i) = r i)
theorem own_clamp {c : Nat} (h : c < 4) : (Int32.ofNat c).toNatClampNeg = c := by
  have t : ∀ j : Fin 4, (Int32.ofNat j.val).toNatClampNeg = j.val := by decide +kernel
  exact t ⟨c, h⟩
theorem own_inb {c : Nat} (h : c < 4) : ¬ Int32.ofNat c < 0 ∧ Int32.ofNat c < (4 : Int32) := by
  have t : ∀ j : Fin 4, ¬ Int32.ofNat j.val < 0 ∧ Int32.ofNat j.val < (4 : Int32) := by decide +kernel
  exact t ⟨c, h⟩
theorem own_inj {a b : Nat} (ha : a < 4) (hb : b < 4) (e : Int32.ofNat a = Int32.ofNat b) : a = b := by
  rw [← own_clamp ha, ← own_clamp hb, e]
theorem own_at (f : Nat → Nat) {c : Nat} (h : c < 4) : (own_l f).getD (Int32.ofNat c).toNatClampNeg (.int (0 : Int32)) = .int (Int32.ofNat (f c)) := by
  rw [own_clamp h]
  match c, h with
  | 0, _ => rfl
  | 1, _ => rfl
  | 2, _ => rfl
  | 3, _ => rfl
  | k + 4, h => exact absurd h (by omega)
theorem own_set (f : Nat → Nat) {c : Nat} (v : Nat) (h : c < 4) : (own_l f).set c (.int (Int32.ofNat v)) = own_l (own_upd f c v) := by
  match c, h with
  | 0, _ => rfl
  | 1, _ => rfl
  | 2, _ => rfl
  | 3, _ => rfl
  | k + 4, h => exact absurd h (by omega)
theorem own_upd_same (f : Nat → Nat) (c v : Nat) : own_upd f c v c = v := if_pos rfl
theorem own_half {ps r : Nat → Nat} (I : own_Inv ps r) {c : Nat} (hc : c < 4) : own_Inv (own_upd ps c (ps (ps c))) r := by
  obtain ⟨h1, h2, h3, h4, h5⟩ := I
  have a1 := h1 c hc
  have a2 := h1 (ps c) (by omega)
  refine ⟨fun i hi => ?_, fun i hi => ?_, fun i hi => ?_, h4, h5⟩
  · unfold own_upd; split
    · omega
    · exact h1 i hi
  · unfold own_upd; split
    · next q => rw [h2 (ps c) (by omega), h2 c hc, q]
    · exact h2 i hi
  · unfold own_upd; split
    · next q => intro z; subst q; exact h3 i hi (by omega)
    · exact h3 i hi
theorem own_lk_eq {r : Nat → Nat} {i j : Nat} (e : r i = r j) : own_lk r i j = r := by
  funext k; unfold own_lk; split <;> omega
theorem own_link_core {ps r : Nat → Nat} (I : own_Inv ps r) {M m : Nat} (hM : M < 4) (hm : m < 4) (b1 : r M = M) (b2 : r m = m) (b3 : m < M) : own_Inv (own_upd ps M m) (fun k => if r k = M then m else r k) := by
  obtain ⟨h1, h2, h3, h4, h5⟩ := I
  have b4 : ¬ m = M := by omega
  refine ⟨fun i hi => ?_, fun i hi => ?_, fun i hi => ?_, fun i hi => ?_, fun i hi => ?_⟩
  · unfold own_upd; split
    · omega
    · exact h1 i hi
  · by_cases q : i = M
    · subst q; rw [own_upd_same]; show (if r m = i then m else r m) = if r i = i then m else r i
      rw [b2, if_neg b4, if_pos b1]
    · have e : own_upd ps M m i = ps i := if_neg q
      rw [e]; show (if r (ps i) = M then m else r (ps i)) = if r i = M then m else r i
      rw [h2 i hi]
  · by_cases q : i = M
    · subst q; rw [own_upd_same]; intro z; exact absurd z b4
    · have e : own_upd ps M m i = ps i := if_neg q
      rw [e]; intro z; have z2 := h3 i hi z
      show (if r i = M then m else r i) = i
      rw [z2, if_neg q]
  · show (if r i = M then m else r i) < _
    split
    · exact hm
    · exact h4 i hi
  · show (if r (if r i = M then m else r i) = M then m else r (if r i = M then m else r i)) = if r i = M then m else r i
    by_cases q : r i = M
    · rw [if_pos q, b2, if_neg b4]
    · rw [if_neg q, h5 i hi, if_neg q]
theorem own_link {ps r : Nat → Nat} (I : own_Inv ps r) {i j : Nat} (hi : i < 4) (hj : j < 4) (hne : r i ≠ r j) : own_Inv (own_upd ps (max (r i) (r j)) (min (r i) (r j))) (own_lk r i j) := by
  have a1 := I.2.2.2.1 i hi; have a2 := I.2.2.2.1 j hj; have a3 := I.2.2.2.2 i hi; have a4 := I.2.2.2.2 j hj
  refine own_link_core I (by omega) (by omega) ?_ ?_ (by omega)
  · rcases Nat.le_total (r i) (r j) with q | q
    · rw [Nat.max_eq_right q]; exact a4
    · rw [Nat.max_eq_left q]; exact a3
  · rcases Nat.le_total (r i) (r j) with q | q
    · rw [Nat.min_eq_left q]; exact a3
    · rw [Nat.min_eq_right q]; exact a4
theorem own_init : own_Inv (fun i => i) (fun i => i) := ⟨fun _ _ => Nat.le_refl _, fun _ _ => rfl, fun _ _ _ => rfl, fun _ h => h, fun _ _ => rfl⟩
theorem own_ite {a M m : Nat} (ha : a < 4) (hM : M < 4) : (if Int32.ofNat a = Int32.ofNat M then Int32.ofNat m else Int32.ofNat a) = Int32.ofNat (if a = M then m else a) := by
  by_cases q : a = M
  · rw [if_pos q, if_pos (congrArg Int32.ofNat q)]
  · rw [if_neg q, if_neg (fun z => q (own_inj ha hM z))]

theorem own_minN {a b : Nat} (ha : a < 4) (hb : b < 4) : own_f6 (Int32.ofNat a) (Int32.ofNat b) = Int32.ofNat (min a b) := by
  have t : ∀ i j : Fin 4, own_f6 (Int32.ofNat i.val) (Int32.ofNat j.val) = Int32.ofNat (min i.val j.val) := by decide +kernel
  exact t ⟨a, ha⟩ ⟨b, hb⟩
theorem own_maxN {a b : Nat} (ha : a < 4) (hb : b < 4) : own_f5 (Int32.ofNat a) (Int32.ofNat b) = Int32.ofNat (max a b) := by
  have t : ∀ i j : Fin 4, own_f5 (Int32.ofNat i.val) (Int32.ofNat j.val) = Int32.ofNat (max i.val j.val) := by decide +kernel
  exact t ⟨a, ha⟩ ⟨b, hb⟩

theorem own_nat (x : Int32) : ∃ i, i < 4 ∧ (x &&& (3 : Int32)) = Int32.ofNat i := by
  have e := Jvm.Kit.i32_mask x 3 (k := 2) (by decide) (by decide)
  have h : (x &&& 3).toInt = 0 ∨ (x &&& 3).toInt = 1 ∨ (x &&& 3).toInt = 2 ∨ (x &&& 3).toInt = 3 := by rw [e]; omega
  rcases h with h | h | h | h
  · exact ⟨0, by decide, Int32.toInt_inj.mp (h.trans (by decide))⟩
  · exact ⟨1, by decide, Int32.toInt_inj.mp (h.trans (by decide))⟩
  · exact ⟨2, by decide, Int32.toInt_inj.mp (h.trans (by decide))⟩
  · exact ⟨3, by decide, Int32.toInt_inj.mp (h.trans (by decide))⟩

theorem d4_2 : decode prog_3_method_3_code 2 = .ok (.aload_n 0, 1) := by decide +kernel
theorem d4_3 : decode prog_3_method_3_code 3 = .ok (.getfield 16, 3) := by decide +kernel
theorem d4_6 : decode prog_3_method_3_code 6 = .ok (.iload_n 2, 1) := by decide +kernel
theorem d4_7 : decode prog_3_method_3_code 7 = .ok (.iaload, 1) := by decide +kernel
theorem d4_8 : decode prog_3_method_3_code 8 = .ok (.iload_n 2, 1) := by decide +kernel
theorem d4_9 : decode prog_3_method_3_code 9 = .ok (.if_icmp .eq 30, 3) := by decide +kernel
theorem d4_12 : decode prog_3_method_3_code 12 = .ok (.aload_n 0, 1) := by decide +kernel
theorem d4_13 : decode prog_3_method_3_code 13 = .ok (.getfield 16, 3) := by decide +kernel
theorem d4_16 : decode prog_3_method_3_code 16 = .ok (.iload_n 2, 1) := by decide +kernel
theorem d4_17 : decode prog_3_method_3_code 17 = .ok (.aload_n 0, 1) := by decide +kernel
theorem d4_18 : decode prog_3_method_3_code 18 = .ok (.getfield 16, 3) := by decide +kernel
theorem d4_21 : decode prog_3_method_3_code 21 = .ok (.aload_n 0, 1) := by decide +kernel
theorem d4_22 : decode prog_3_method_3_code 22 = .ok (.getfield 16, 3) := by decide +kernel
theorem d4_25 : decode prog_3_method_3_code 25 = .ok (.iload_n 2, 1) := by decide +kernel
theorem d4_26 : decode prog_3_method_3_code 26 = .ok (.iaload, 1) := by decide +kernel
theorem d4_27 : decode prog_3_method_3_code 27 = .ok (.iaload, 1) := by decide +kernel
theorem d4_28 : decode prog_3_method_3_code 28 = .ok (.iastore, 1) := by decide +kernel
theorem d4_29 : decode prog_3_method_3_code 29 = .ok (.aload_n 0, 1) := by decide +kernel
theorem d4_30 : decode prog_3_method_3_code 30 = .ok (.getfield 16, 3) := by decide +kernel
theorem d4_33 : decode prog_3_method_3_code 33 = .ok (.iload_n 2, 1) := by decide +kernel
theorem d4_34 : decode prog_3_method_3_code 34 = .ok (.iaload, 1) := by decide +kernel
theorem d4_35 : decode prog_3_method_3_code 35 = .ok (.istore_n 2, 1) := by decide +kernel
theorem d4_36 : decode prog_3_method_3_code 36 = .ok (.goto (-34), 3) := by decide +kernel
set_option maxRecDepth 65536 in
set_option maxHeartbeats 40000000 in
theorem loop4 {p : Program} {l : Launch} {e : Env} {R : Room} {s : State} {m : MethodId} {args : Array Value} {below : List Frame} {meth : Method} {c : Code} {cells slots : Nat} {Z : State} {a0 : Array Value} (n0 : Nat) (a1 b1 : Addr) (kd : ClassId) (p2 : Int32) (r : Nat → Nat) (hx : p.tables.exec = Jvm.exec) (hZ : Z.Warmed39 s.vm) (hw : ∀ d ∈ tables_1, d.before a0 Z = true) (hby : c.code = prog_3_method_3_code) (hml : c.maxLocals = 3) (hown : s.vm.findClass "com/example/vertumnus/vertumnus/Partitions" = some m.cls) (ge_b1 : n0 ≤ b1) (ne_a1_b1 : a1 ≠ b1) :
    ∀ (cu : Nat) (ps : Nat → Nat) (T0 : State) (h0 : Heap) (locs : List Loc), cu < 4 → own_Inv ps r → Stand p l e R s m args below meth c T0 locs cells slots → T0.heap = h0 → Fr n0 locs → n0 ≤ h0.size → Fld Z h0 a1 "com/example/vertumnus/vertumnus/Partitions" "parents" "[I" (.ref b1) → Arv Z h0 b1 kd .int (4 : Int32) (own_l ps) (.int (0 : Int32)) →
      ∃ (T' : State) (h' : Heap) (L' : List Loc) (ps' : Nat → Nat), Stand p l e R s m args below meth c T' L' cells slots ∧ T'.heap = h' ∧ Fr n0 L' ∧ Keep h0 h' [b1] ∧ Fld Z h' a1 "com/example/vertumnus/vertumnus/Partitions" "parents" "[I" (.ref b1) ∧ Arv Z h' b1 kd .int (4 : Int32) (own_l ps') (.int (0 : Int32)) ∧ own_Inv ps' r ∧
        ∀ t, Steps p.tables e below (T'.setTop (mkF m 39 #[.val (.ref a1), .val (.int p2), .val (.int (Int32.ofNat (r cu)))] [])) t → Steps p.tables e below (T0.setTop (mkF m 2 #[.val (.ref a1), .val (.int p2), .val (.int (Int32.ofNat cu))] [])) t := by
  intro cu
  induction cu using Nat.strongRecOn with
  | ind cu ih =>
      intro ps T0 h0 locs hcu hI X0 e0 N0 Z0 Fp Vp
      have hpc : ps cu < 4 := Nat.lt_of_le_of_lt (hI.1 cu hcu) hcu
      have pre0 : ∀ t, Steps p.tables e below (T0.setTop (mkF m 2 #[.val (.ref a1), .val (.int p2), .val (.int (Int32.ofNat cu))] [])) t → Steps p.tables e below (T0.setTop (mkF m 2 #[.val (.ref a1), .val (.int p2), .val (.int (Int32.ofNat cu))] [])) t := fun t k => k
      have pre1 : ∀ t, Steps p.tables e below (T0.setTop (mkF m 3 #[.val (.ref a1), .val (.int p2), .val (.int (Int32.ofNat cu))] [(.ref a1)])) t → Steps p.tables e below (T0.setTop (mkF m 2 #[.val (.ref a1), .val (.int p2), .val (.int (Int32.ofNat cu))] [])) t := by
        intro t kt
        refine pre0 t ?_
        show Steps p.tables e below (T0.setTop (mkF m 2 #[.val (.ref a1), .val (.int p2), .val (.int (Int32.ofNat cu))] [])) _
        refine XS.aloadN X0.here hx rfl (hb hby d4_2) rfl rfl ?_
        exact kt
      obtain ⟨T2, X2, e2, st2⟩ := getF X0 hx hZ hown (host := "") (Or.inl (hw _ (List.mem_of_getElem? (i := 10) rfl))) Via.refl e0 Fp (g := (mkF m 3 #[.val (.ref a1), .val (.int p2), .val (.int (Int32.ofNat cu))] [(.ref a1)])) rfl rfl (hb hby d4_3)
      have pre2 : ∀ t, Steps p.tables e below (T2.setTop (mkF m 6 #[.val (.ref a1), .val (.int p2), .val (.int (Int32.ofNat cu))] [(.ref b1)])) t → Steps p.tables e below (T0.setTop (mkF m 2 #[.val (.ref a1), .val (.int p2), .val (.int (Int32.ofNat cu))] [])) t := fun t kt => pre1 t (st2 _ kt)
      have pre4 : ∀ t, Steps p.tables e below (T2.setTop (mkF m 9 #[.val (.ref a1), .val (.int p2), .val (.int (Int32.ofNat cu))] [(.int (Int32.ofNat cu)), (.int (Int32.ofNat (ps cu)))])) t → Steps p.tables e below (T0.setTop (mkF m 2 #[.val (.ref a1), .val (.int p2), .val (.int (Int32.ofNat cu))] [])) t := by
        intro t kt
        refine pre2 t ?_
        show Steps p.tables e below (T2.setTop (mkF m 6 #[.val (.ref a1), .val (.int p2), .val (.int (Int32.ofNat cu))] [(.ref b1)])) _
        refine XS.iloadN X2.here hx rfl (hb hby d4_6) rfl ?_
        show Steps p.tables e below (T2.setTop (mkF m 7 #[.val (.ref a1), .val (.int p2), .val (.int (Int32.ofNat cu))] [(.int (Int32.ofNat cu)), (.ref b1)])) _
        obtain ⟨cl3, Ar3, -, S3, M3, H3, -⟩ := (id Vp)
        have hin3 : ¬ ((Int32.ofNat cu) < 0 ∨ cl3.slots.size ≤ ((Int32.ofNat cu)).toNatClampNeg) := inb_of S3 (own_inb hcu)
        refine X2.iaload hx (j := (Int32.ofNat cu)) (v := (.int (Int32.ofNat (ps cu)))) (by rw [e2]; exact Ar3.1) (State.isArrayOf_alike hZ.alike Ar3.2.1) Ar3.2.2 hin3 (H3.at hin3 (own_at ps hcu)) (g := (mkF m 7 #[.val (.ref a1), .val (.int p2), .val (.int (Int32.ofNat cu))] [(.int (Int32.ofNat cu)), (.ref b1)])) rfl rfl (hb hby d4_7) _ ?_
        show Steps p.tables e below (T2.setTop (mkF m 8 #[.val (.ref a1), .val (.int p2), .val (.int (Int32.ofNat cu))] [(.int (Int32.ofNat (ps cu)))])) _
        refine XS.iloadN X2.here hx rfl (hb hby d4_8) rfl ?_
        exact kt
      by_cases hc9 : (Int32.ofNat (ps cu)) = (Int32.ofNat cu)
      · have pre5 : ∀ t, Steps p.tables e below (T2.setTop (mkF m 39 #[.val (.ref a1), .val (.int p2), .val (.int (Int32.ofNat cu))] [])) t → Steps p.tables e below (T0.setTop (mkF m 2 #[.val (.ref a1), .val (.int p2), .val (.int (Int32.ofNat cu))] [])) t := by
          intro t kt
          refine pre4 t ?_
          show Steps p.tables e below (T2.setTop (mkF m 9 #[.val (.ref a1), .val (.int p2), .val (.int (Int32.ofNat cu))] [(.int (Int32.ofNat cu)), (.int (Int32.ofNat (ps cu)))])) _
          refine XS.icmpYes X2.here hx rfl (pc0 := 9) (pc' := 39) rfl (hb hby d4_9) rfl (teq hc9).1 (by decide) (by decide) ?_
          exact kt
        have hr : r cu = cu := hI.2.2.1 cu hcu (own_inj (Nat.lt_of_le_of_lt (hI.1 cu hcu) hcu) hcu hc9)
        exact ⟨_, _, _, ps, X2, e2, N0, (Keep.refl h0 [b1]), Fp, Vp, hI, by rw [hr]; exact pre5⟩
      · have pre6 : ∀ t, Steps p.tables e below (T2.setTop (mkF m 12 #[.val (.ref a1), .val (.int p2), .val (.int (Int32.ofNat cu))] [])) t → Steps p.tables e below (T0.setTop (mkF m 2 #[.val (.ref a1), .val (.int p2), .val (.int (Int32.ofNat cu))] [])) t := by
          intro t kt
          refine pre4 t ?_
          show Steps p.tables e below (T2.setTop (mkF m 9 #[.val (.ref a1), .val (.int p2), .val (.int (Int32.ofNat cu))] [(.int (Int32.ofNat cu)), (.int (Int32.ofNat (ps cu)))])) _
          refine XS.icmpNo X2.here hx rfl (hb hby d4_9) rfl (feq hc9).1 ?_
          exact kt
        have pre7 : ∀ t, Steps p.tables e below (T2.setTop (mkF m 13 #[.val (.ref a1), .val (.int p2), .val (.int (Int32.ofNat cu))] [(.ref a1)])) t → Steps p.tables e below (T0.setTop (mkF m 2 #[.val (.ref a1), .val (.int p2), .val (.int (Int32.ofNat cu))] [])) t := by
          intro t kt
          refine pre6 t ?_
          show Steps p.tables e below (T2.setTop (mkF m 12 #[.val (.ref a1), .val (.int p2), .val (.int (Int32.ofNat cu))] [])) _
          refine XS.aloadN X2.here hx rfl (hb hby d4_12) rfl rfl ?_
          exact kt
        obtain ⟨T8, X8, e8, st8⟩ := getF X2 hx hZ hown (host := "") (Or.inl (hw _ (List.mem_of_getElem? (i := 10) rfl))) Via.refl e2 Fp (g := (mkF m 13 #[.val (.ref a1), .val (.int p2), .val (.int (Int32.ofNat cu))] [(.ref a1)])) rfl rfl (hb hby d4_13)
        have pre8 : ∀ t, Steps p.tables e below (T8.setTop (mkF m 16 #[.val (.ref a1), .val (.int p2), .val (.int (Int32.ofNat cu))] [(.ref b1)])) t → Steps p.tables e below (T0.setTop (mkF m 2 #[.val (.ref a1), .val (.int p2), .val (.int (Int32.ofNat cu))] [])) t := fun t kt => pre7 t (st8 _ kt)
        have pre9 : ∀ t, Steps p.tables e below (T8.setTop (mkF m 18 #[.val (.ref a1), .val (.int p2), .val (.int (Int32.ofNat cu))] [(.ref a1), (.int (Int32.ofNat cu)), (.ref b1)])) t → Steps p.tables e below (T0.setTop (mkF m 2 #[.val (.ref a1), .val (.int p2), .val (.int (Int32.ofNat cu))] [])) t := by
          intro t kt
          refine pre8 t ?_
          show Steps p.tables e below (T8.setTop (mkF m 16 #[.val (.ref a1), .val (.int p2), .val (.int (Int32.ofNat cu))] [(.ref b1)])) _
          refine XS.iloadN X8.here hx rfl (hb hby d4_16) rfl ?_
          show Steps p.tables e below (T8.setTop (mkF m 17 #[.val (.ref a1), .val (.int p2), .val (.int (Int32.ofNat cu))] [(.int (Int32.ofNat cu)), (.ref b1)])) _
          refine XS.aloadN X8.here hx rfl (hb hby d4_17) rfl rfl ?_
          exact kt
        obtain ⟨T10, X10, e10, st10⟩ := getF X8 hx hZ hown (host := "") (Or.inl (hw _ (List.mem_of_getElem? (i := 10) rfl))) Via.refl e8 Fp (g := (mkF m 18 #[.val (.ref a1), .val (.int p2), .val (.int (Int32.ofNat cu))] [(.ref a1), (.int (Int32.ofNat cu)), (.ref b1)])) rfl rfl (hb hby d4_18)
        have pre10 : ∀ t, Steps p.tables e below (T10.setTop (mkF m 21 #[.val (.ref a1), .val (.int p2), .val (.int (Int32.ofNat cu))] [(.ref b1), (.int (Int32.ofNat cu)), (.ref b1)])) t → Steps p.tables e below (T0.setTop (mkF m 2 #[.val (.ref a1), .val (.int p2), .val (.int (Int32.ofNat cu))] [])) t := fun t kt => pre9 t (st10 _ kt)
        have pre11 : ∀ t, Steps p.tables e below (T10.setTop (mkF m 22 #[.val (.ref a1), .val (.int p2), .val (.int (Int32.ofNat cu))] [(.ref a1), (.ref b1), (.int (Int32.ofNat cu)), (.ref b1)])) t → Steps p.tables e below (T0.setTop (mkF m 2 #[.val (.ref a1), .val (.int p2), .val (.int (Int32.ofNat cu))] [])) t := by
          intro t kt
          refine pre10 t ?_
          show Steps p.tables e below (T10.setTop (mkF m 21 #[.val (.ref a1), .val (.int p2), .val (.int (Int32.ofNat cu))] [(.ref b1), (.int (Int32.ofNat cu)), (.ref b1)])) _
          refine XS.aloadN X10.here hx rfl (hb hby d4_21) rfl rfl ?_
          exact kt
        obtain ⟨T12, X12, e12, st12⟩ := getF X10 hx hZ hown (host := "") (Or.inl (hw _ (List.mem_of_getElem? (i := 10) rfl))) Via.refl e10 Fp (g := (mkF m 22 #[.val (.ref a1), .val (.int p2), .val (.int (Int32.ofNat cu))] [(.ref a1), (.ref b1), (.int (Int32.ofNat cu)), (.ref b1)])) rfl rfl (hb hby d4_22)
        have pre12 : ∀ t, Steps p.tables e below (T12.setTop (mkF m 25 #[.val (.ref a1), .val (.int p2), .val (.int (Int32.ofNat cu))] [(.ref b1), (.ref b1), (.int (Int32.ofNat cu)), (.ref b1)])) t → Steps p.tables e below (T0.setTop (mkF m 2 #[.val (.ref a1), .val (.int p2), .val (.int (Int32.ofNat cu))] [])) t := fun t kt => pre11 t (st12 _ kt)
        have pre15 : ∀ t, Steps p.tables e below (T12.setTop (mkF m 28 #[.val (.ref a1), .val (.int p2), .val (.int (Int32.ofNat cu))] [(.int (Int32.ofNat (ps (ps cu)))), (.int (Int32.ofNat cu)), (.ref b1)])) t → Steps p.tables e below (T0.setTop (mkF m 2 #[.val (.ref a1), .val (.int p2), .val (.int (Int32.ofNat cu))] [])) t := by
          intro t kt
          refine pre12 t ?_
          show Steps p.tables e below (T12.setTop (mkF m 25 #[.val (.ref a1), .val (.int p2), .val (.int (Int32.ofNat cu))] [(.ref b1), (.ref b1), (.int (Int32.ofNat cu)), (.ref b1)])) _
          refine XS.iloadN X12.here hx rfl (hb hby d4_25) rfl ?_
          show Steps p.tables e below (T12.setTop (mkF m 26 #[.val (.ref a1), .val (.int p2), .val (.int (Int32.ofNat cu))] [(.int (Int32.ofNat cu)), (.ref b1), (.ref b1), (.int (Int32.ofNat cu)), (.ref b1)])) _
          obtain ⟨cl13, Ar13, -, S13, M13, H13, -⟩ := (id Vp)
          have hin13 : ¬ ((Int32.ofNat cu) < 0 ∨ cl13.slots.size ≤ ((Int32.ofNat cu)).toNatClampNeg) := inb_of S13 (own_inb hcu)
          refine X12.iaload hx (j := (Int32.ofNat cu)) (v := (.int (Int32.ofNat (ps cu)))) (by rw [e12]; exact Ar13.1) (State.isArrayOf_alike hZ.alike Ar13.2.1) Ar13.2.2 hin13 (H13.at hin13 (own_at ps hcu)) (g := (mkF m 26 #[.val (.ref a1), .val (.int p2), .val (.int (Int32.ofNat cu))] [(.int (Int32.ofNat cu)), (.ref b1), (.ref b1), (.int (Int32.ofNat cu)), (.ref b1)])) rfl rfl (hb hby d4_26) _ ?_
          show Steps p.tables e below (T12.setTop (mkF m 27 #[.val (.ref a1), .val (.int p2), .val (.int (Int32.ofNat cu))] [(.int (Int32.ofNat (ps cu))), (.ref b1), (.int (Int32.ofNat cu)), (.ref b1)])) _
          obtain ⟨cl14, Ar14, -, S14, M14, H14, -⟩ := (id Vp)
          have hin14 : ¬ ((Int32.ofNat (ps cu)) < 0 ∨ cl14.slots.size ≤ ((Int32.ofNat (ps cu))).toNatClampNeg) := inb_of S14 (own_inb hpc)
          refine X12.iaload hx (j := (Int32.ofNat (ps cu))) (v := (.int (Int32.ofNat (ps (ps cu))))) (by rw [e12]; exact Ar14.1) (State.isArrayOf_alike hZ.alike Ar14.2.1) Ar14.2.2 hin14 (H14.at hin14 (own_at ps hpc)) (g := (mkF m 27 #[.val (.ref a1), .val (.int p2), .val (.int (Int32.ofNat cu))] [(.int (Int32.ofNat (ps cu))), (.ref b1), (.int (Int32.ofNat cu)), (.ref b1)])) rfl rfl (hb hby d4_27) _ ?_
          exact kt
        obtain ⟨cl16, Ar16, q16, S16, M16, H16, G16⟩ := (id Vp)
        have hin16 : ¬ ((Int32.ofNat cu) < 0 ∨ cl16.slots.size ≤ ((Int32.ofNat cu)).toNatClampNeg) := inb_of S16 (own_inb hcu)
        obtain ⟨T16, h16, X16, e16, W16, st16⟩ := stI X12 hx hZ e12 Ar16 (j := (Int32.ofNat cu)) hin16 (g := (mkF m 28 #[.val (.ref a1), .val (.int p2), .val (.int (Int32.ofNat cu))] [(.int (Int32.ofNat (ps (ps cu)))), (.int (Int32.ofNat cu)), (.ref b1)])) rfl rfl (hb hby d4_28)
        have Vp_16 := Arv.set Ar16 q16 S16 M16 H16 G16 rfl W16 cu (own_clamp hcu) (show cu < (own_l ps).length from hcu)
        have N16 := Fr.snoc X16 N0 ge_b1
        have K16 : Keep h0 h16 [b1] := (Keep.refl h0 [b1]).wr W16 (Or.inl (List.mem_of_getElem? (i := 0) rfl))
        have Z16 : n0 ≤ h16.size := Nat.le_trans Z0 (Keep.of_wr W16).1
        have Fp_17 := Fp.other W16 (Or.inl ne_a1_b1)
        rw [own_set ps _ hcu] at Vp_16
        have pre16 : ∀ t, Steps p.tables e below (T16.setTop (mkF m 29 #[.val (.ref a1), .val (.int p2), .val (.int (Int32.ofNat cu))] [])) t → Steps p.tables e below (T0.setTop (mkF m 2 #[.val (.ref a1), .val (.int p2), .val (.int (Int32.ofNat cu))] [])) t := fun t kt => pre15 t (st16 _ kt)
        have pre19 : ∀ t, Steps p.tables e below (T16.setTop (mkF m 30 #[.val (.ref a1), .val (.int p2), .val (.int (Int32.ofNat cu))] [(.ref a1)])) t → Steps p.tables e below (T0.setTop (mkF m 2 #[.val (.ref a1), .val (.int p2), .val (.int (Int32.ofNat cu))] [])) t := by
          intro t kt
          refine pre16 t ?_
          show Steps p.tables e below (T16.setTop (mkF m 29 #[.val (.ref a1), .val (.int p2), .val (.int (Int32.ofNat cu))] [])) _
          refine XS.aloadN X16.here hx rfl (hb hby d4_29) rfl rfl ?_
          exact kt
        obtain ⟨T20, X20, e20, st20⟩ := getF X16 hx hZ hown (host := "") (Or.inl (hw _ (List.mem_of_getElem? (i := 10) rfl))) Via.refl e16 Fp_17 (g := (mkF m 30 #[.val (.ref a1), .val (.int p2), .val (.int (Int32.ofNat cu))] [(.ref a1)])) rfl rfl (hb hby d4_30)
        have pre20 : ∀ t, Steps p.tables e below (T20.setTop (mkF m 33 #[.val (.ref a1), .val (.int p2), .val (.int (Int32.ofNat cu))] [(.ref b1)])) t → Steps p.tables e below (T0.setTop (mkF m 2 #[.val (.ref a1), .val (.int p2), .val (.int (Int32.ofNat cu))] [])) t := fun t kt => pre19 t (st20 _ kt)
        have pre22 : ∀ t, Steps p.tables e below (T20.setTop (mkF m 2 #[.val (.ref a1), .val (.int p2), .val (.int (Int32.ofNat (ps (ps cu))))] [])) t → Steps p.tables e below (T0.setTop (mkF m 2 #[.val (.ref a1), .val (.int p2), .val (.int (Int32.ofNat cu))] [])) t := by
          intro t kt
          refine pre20 t ?_
          show Steps p.tables e below (T20.setTop (mkF m 33 #[.val (.ref a1), .val (.int p2), .val (.int (Int32.ofNat cu))] [(.ref b1)])) _
          refine XS.iloadN X20.here hx rfl (hb hby d4_33) rfl ?_
          show Steps p.tables e below (T20.setTop (mkF m 34 #[.val (.ref a1), .val (.int p2), .val (.int (Int32.ofNat cu))] [(.int (Int32.ofNat cu)), (.ref b1)])) _
          obtain ⟨cl21, Ar21, -, S21, M21, H21, -⟩ := (id Vp_16)
          have hin21 : ¬ ((Int32.ofNat cu) < 0 ∨ cl21.slots.size ≤ ((Int32.ofNat cu)).toNatClampNeg) := inb_of S21 (own_inb hcu)
          refine X20.iaload hx (j := (Int32.ofNat cu)) (v := (.int (Int32.ofNat (ps (ps cu))))) (by rw [e20]; exact Ar21.1) (State.isArrayOf_alike hZ.alike Ar21.2.1) Ar21.2.2 hin21 (H21.at hin21 ((own_at _ hcu).trans (by rw [own_upd_same]))) (g := (mkF m 34 #[.val (.ref a1), .val (.int p2), .val (.int (Int32.ofNat cu))] [(.int (Int32.ofNat cu)), (.ref b1)])) rfl rfl (hb hby d4_34) _ ?_
          show Steps p.tables e below (T20.setTop (mkF m 35 #[.val (.ref a1), .val (.int p2), .val (.int (Int32.ofNat cu))] [(.int (Int32.ofNat (ps (ps cu))))])) _
          refine XS.istoreN X20.here hx rfl (hb hby d4_35) rfl (l' := #[.val (.ref a1), .val (.int p2), .val (.int (Int32.ofNat (ps (ps cu))))]) rfl ?_
          show Steps p.tables e below (T20.setTop (mkF m 36 #[.val (.ref a1), .val (.int p2), .val (.int (Int32.ofNat (ps (ps cu))))] [])) _
          refine XS.goto X20.here hx rfl (pc0 := 36) (pc' := 2) rfl (hb hby d4_36) (by decide) (by decide) ?_
          exact kt
        have hlt : ps (ps cu) < cu := by
          have q1 := hI.1 cu hcu
          have q2 := hI.1 (ps cu) hpc
          have q3 : ps cu ≠ cu := fun z => hc9 (congrArg Int32.ofNat z)
          omega
        have hr : r (ps (ps cu)) = r cu := (hI.2.1 (ps cu) hpc).trans (hI.2.1 cu hcu)
        obtain ⟨T', h', L', ps', X', e', N', K', F', V', I', st'⟩ := ih (ps (ps cu)) hlt (own_upd ps cu (ps (ps cu))) _ _ _ (Nat.lt_trans hlt hcu) (own_half hI hcu) X20 e20 N16 Z16 Fp_17 Vp_16
        rw [hr] at st'
        exact ⟨_, _, _, ps', X', e', N', K16.trans K' (allS (Or.inl (List.mem_of_getElem? (i := 0) rfl)) all0), F', V', I', fun t kt => pre22 t (st' t kt)⟩
def Qrm4 (Z : State) (a1 : Addr) (p2 : Int32) (b1 : Addr) (kd : ClassId) (ps : Nat → Nat) (r : Nat → Nat) (i : Nat) (h0 : Heap) (n0 : Nat) (v : Option Value) (h : Heap) (L : List Loc) : Prop := ∃ (pz : Nat → Nat), v = some (.int (Int32.ofNat (r i))) ∧ Fr n0 L ∧ Keep h0 h [b1] ∧ Fld Z h a1 "com/example/vertumnus/vertumnus/Partitions" "parents" "[I" (.ref b1) ∧ Arv Z h b1 kd .int (4 : Int32) (own_l pz) (.int (0 : Int32)) ∧ own_Inv pz r
theorem d4_0 : decode prog_3_method_3_code 0 = .ok (.iload_n 1, 1) := by decide +kernel
theorem d4_1 : decode prog_3_method_3_code 1 = .ok (.istore_n 2, 1) := by decide +kernel
theorem d4_39 : decode prog_3_method_3_code 39 = .ok (.iload_n 2, 1) := by decide +kernel
theorem d4_40 : decode prog_3_method_3_code 40 = .ok (.ireturn, 1) := by decide +kernel
theorem ef_4 (m : MethodId) (x0 : Addr) (x1 : Int32) : entryFrame m #[(.ref x0), (.int x1)] 3 = mkF m 0 #[.val (.ref x0), .val (.int x1), .unset] [] := by first | (simp [entryFrame, mkF, argsToLocals, Value.category]; done) | rfl
set_option maxRecDepth 65536 in
set_option maxHeartbeats 40000000 in
theorem rm4 (l : Launch) (Z : State) (a0 : Array Value) (hw : ∀ d ∈ tables_1, d.before a0 Z = true) (ws : List Jvm.Cond) (a1 : Addr) (p2 : Int32) (b1 : Addr) (kd : ClassId) (ps : Nat → Nat) (r : Nat → Nat) (i : Nat) (h0 : Heap) (n0 : Nat) (Z0 : n0 ≤ h0.size) (F_parents_a1 : Fld Z h0 a1 "com/example/vertumnus/vertumnus/Partitions" "parents" "[I" (.ref b1)) (V_b1 : Arv Z h0 b1 kd .int (4 : Int32) (own_l ps) (.int (0 : Int32))) (ge_b1 : n0 ≤ b1) (ne_a1_b1 : a1 ≠ b1) (hI : own_Inv ps r) (hi : i < 4) (hp : p2 = Int32.ofNat i) :
    MetFree l (⟨"com/example/vertumnus/vertumnus/Partitions", "partitionOf", "(I)I"⟩ : MethodName) (head1 (Jvm.Cond.code (⟨"com/example/vertumnus/vertumnus/Partitions", "partitionOf", "(I)I"⟩ : MethodName) prog_3_method_3_code 3 (some .int) :: ws) ({ frames := 0, cells := 0, slots := 0, locals := 0 } : Room)) (fun a U => a = #[(.ref a1), (.int p2)] ∧ Z.Warmed39 U.vm ∧ U.heap = h0) (fun _ _ _ _ _ => True) (fun _ U o U' => ∃ v L, o = .returned v ∧ Qrm4 Z a1 p2 b1 kd ps r i h0 n0 v U'.heap L ∧ FrameEnd U o U' L ({ frames := 0, cells := 0, slots := 0, locals := 0 } : Room).cells ({ frames := 0, cells := 0, slots := 0, locals := 0 } : Room).slots) := by
  refine MetFree.of_bodySF (plainFor_of_name pn_0) hisR ?_
  intro p e s m args below meth c s₁ Bd hml0 hP hK
  obtain ⟨rfl, hZ, hh⟩ := hP
  have hx := Bd.exec
  have hby := Bd.bytes
  have hml : c.maxLocals = 3 := hml0
  have hown : s.vm.findClass "com/example/vertumnus/vertumnus/Partitions" = some m.cls := findClass_of_methodNamed Bd.named
  have hnm := (name_of_methodNamed Bd.named Bd.method).1
  have X0 : Stand p l e ({ frames := 0, cells := 0, slots := 0, locals := 0 } : Room) s m #[(.ref a1), (.int p2)] below meth c s₁ [] 0 0 := Stand.of_body Bd
  have e0 : s₁.heap = h0 := by rw [← hh, Bd.state]; rfl
  have N0 := Fr.nil n0
  have pre0 : ∀ t, Steps p.tables e below (s₁.setTop (mkF m 0 #[.val (.ref a1), .val (.int p2), .unset] [])) t → Steps p.tables e below (s₁.setTop (entryFrame m #[(.ref a1), (.int p2)] 3)) t := fun t k => castTop (ef_4 m a1 p2) k
  subst hp
  have pre1 : ∀ t, Steps p.tables e below (s₁.setTop (mkF m 2 #[.val (.ref a1), .val (.int (Int32.ofNat i)), .val (.int (Int32.ofNat i))] [])) t → Steps p.tables e below (s₁.setTop (entryFrame m #[(.ref a1), (.int (Int32.ofNat i))] 3)) t := by
    intro t kt
    refine pre0 t ?_
    show Steps p.tables e below (s₁.setTop (mkF m 0 #[.val (.ref a1), .val (.int (Int32.ofNat i)), .unset] [])) _
    refine XS.iloadN X0.here hx rfl (hb hby d4_0) rfl ?_
    show Steps p.tables e below (s₁.setTop (mkF m 1 #[.val (.ref a1), .val (.int (Int32.ofNat i)), .unset] [(.int (Int32.ofNat i))])) _
    refine XS.istoreN X0.here hx rfl (hb hby d4_1) rfl (l' := #[.val (.ref a1), .val (.int (Int32.ofNat i)), .val (.int (Int32.ofNat i))]) rfl ?_
    exact kt
  obtain ⟨T2, h2, L2, ps2, X2, e2, N2, KC2, F2, V2, I2, st2⟩ := loop4 n0 a1 b1 kd (Int32.ofNat i) r hx hZ hw hby hml hown ge_b1 ne_a1_b1 i ps _ _ _ hi hI X0 e0 N0 Z0 F_parents_a1 V_b1
  have K2 : Keep h0 h2 [b1] := (Keep.refl h0 [b1]).trans KC2 (allS (Or.inl (List.mem_of_getElem? (i := 0) rfl)) all0)
  have Z2 : n0 ≤ h2.size := Nat.le_trans Z0 KC2.1
  have pre2 : ∀ t, Steps p.tables e below (T2.setTop (mkF m 39 #[.val (.ref a1), .val (.int (Int32.ofNat i)), .val (.int (Int32.ofNat (r i)))] [])) t → Steps p.tables e below (s₁.setTop (entryFrame m #[(.ref a1), (.int (Int32.ofNat i))] 3)) t := fun t kt => pre1 t (st2 _ kt)
  have pre3 : ∀ t, Steps p.tables e below (T2.setTop (mkF m 40 #[.val (.ref a1), .val (.int (Int32.ofNat i)), .val (.int (Int32.ofNat (r i)))] [(.int (Int32.ofNat (r i)))])) t → Steps p.tables e below (s₁.setTop (entryFrame m #[(.ref a1), (.int (Int32.ofNat i))] 3)) t := by
    intro t kt
    refine pre2 t ?_
    show Steps p.tables e below (T2.setTop (mkF m 39 #[.val (.ref a1), .val (.int (Int32.ofNat i)), .val (.int (Int32.ofNat (r i)))] [])) _
    refine XS.iloadN X2.here hx rfl (hb hby d4_39) rfl ?_
    exact kt
  obtain ⟨fs, hr, hrun, hended, hW, hsame⟩ := X2.leave (v := some (.int (Int32.ofNat (r i)))) (fun h => by rw [Bd.returns] at h; cases h)
  refine ⟨_, _, pre3 _ ?_, hrun, hended, _, _, rfl, ?_, ⟨_, rfl⟩, hW, hsame.mono (by decide) (by decide)⟩
  · show Steps p.tables e below (T2.setTop (mkF m 40 #[.val (.ref a1), .val (.int (Int32.ofNat i)), .val (.int (Int32.ofNat (r i)))] [(.int (Int32.ofNat (r i)))])) _
    exact retI X2 hx Bd.returns (hb hby d4_40) hr
  · show Qrm4 Z a1 (Int32.ofNat i) b1 kd ps r i h0 n0 _ T2.heap _
    rw [e2]
    exact ⟨ps2, rfl, N2, K2, F2, V2, I2⟩
def Qrm3 (Z : State) (a1 : Addr) (p2 : Int32) (p3 : Int32) (b1 : Addr) (kd : ClassId) (ps : Nat → Nat) (r : Nat → Nat) (i : Nat) (j : Nat) (w1 : Int32) (h0 : Heap) (n0 : Nat) (v : Option Value) (h : Heap) (L : List Loc) : Prop := ∃ (pz : Nat → Nat), v = none ∧ Fr n0 L ∧ Keep h0 h [a1, b1] ∧ Exa Z h a1 "com/example/vertumnus/vertumnus/Partitions" ∧ Fld Z h a1 "com/example/vertumnus/vertumnus/Partitions" "parents" "[I" (.ref b1) ∧ Arv Z h b1 kd .int (4 : Int32) (own_l pz) (.int (0 : Int32)) ∧ Fld Z h a1 "com/example/vertumnus/vertumnus/Partitions" "count" "I" (.int (if r i = r j then w1 else w1 - 1)) ∧ own_Inv pz (own_lk r i j)
theorem d3_0 : decode prog_3_method_2_code 0 = .ok (.aload_n 0, 1) := by decide +kernel
theorem d3_1 : decode prog_3_method_2_code 1 = .ok (.iload_n 1, 1) := by decide +kernel
theorem d3_2 : decode prog_3_method_2_code 2 = .ok (.invokevirtual 26, 3) := by decide +kernel
theorem d3_5 : decode prog_3_method_2_code 5 = .ok (.istore_n 3, 1) := by decide +kernel
theorem d3_6 : decode prog_3_method_2_code 6 = .ok (.aload_n 0, 1) := by decide +kernel
theorem d3_7 : decode prog_3_method_2_code 7 = .ok (.iload_n 2, 1) := by decide +kernel
theorem d3_8 : decode prog_3_method_2_code 8 = .ok (.invokevirtual 26, 3) := by decide +kernel
theorem d3_11 : decode prog_3_method_2_code 11 = .ok (.istore 4, 2) := by decide +kernel
theorem d3_13 : decode prog_3_method_2_code 13 = .ok (.iload_n 3, 1) := by decide +kernel
theorem d3_14 : decode prog_3_method_2_code 14 = .ok (.iload 4, 2) := by decide +kernel
theorem d3_16 : decode prog_3_method_2_code 16 = .ok (.if_icmp .eq 30, 3) := by decide +kernel
theorem d3_19 : decode prog_3_method_2_code 19 = .ok (.aload_n 0, 1) := by decide +kernel
theorem d3_20 : decode prog_3_method_2_code 20 = .ok (.getfield 16, 3) := by decide +kernel
theorem d3_23 : decode prog_3_method_2_code 23 = .ok (.iload_n 3, 1) := by decide +kernel
theorem d3_24 : decode prog_3_method_2_code 24 = .ok (.iload 4, 2) := by decide +kernel
theorem d3_26 : decode prog_3_method_2_code 26 = .ok (.invokestatic 30, 3) := by decide +kernel
theorem d3_29 : decode prog_3_method_2_code 29 = .ok (.iload_n 3, 1) := by decide +kernel
theorem d3_30 : decode prog_3_method_2_code 30 = .ok (.iload 4, 2) := by decide +kernel
theorem d3_32 : decode prog_3_method_2_code 32 = .ok (.invokestatic 36, 3) := by decide +kernel
theorem d3_35 : decode prog_3_method_2_code 35 = .ok (.iastore, 1) := by decide +kernel
theorem d3_36 : decode prog_3_method_2_code 36 = .ok (.aload_n 0, 1) := by decide +kernel
theorem d3_37 : decode prog_3_method_2_code 37 = .ok (.dup, 1) := by decide +kernel
theorem d3_38 : decode prog_3_method_2_code 38 = .ok (.getfield 22, 3) := by decide +kernel
theorem d3_41 : decode prog_3_method_2_code 41 = .ok (.iconst 1, 1) := by decide +kernel
theorem d3_42 : decode prog_3_method_2_code 42 = .ok (.isub, 1) := by decide +kernel
theorem d3_43 : decode prog_3_method_2_code 43 = .ok (.putfield 22, 3) := by decide +kernel
theorem d3_46 : decode prog_3_method_2_code 46 = .ok (.return_, 1) := by decide +kernel
theorem ef_3 (m : MethodId) (x0 : Addr) (x1 : Int32) (x2 : Int32) : entryFrame m #[(.ref x0), (.int x1), (.int x2)] 5 = mkF m 0 #[.val (.ref x0), .val (.int x1), .val (.int x2), .unset, .unset] [] := by first | (simp [entryFrame, mkF, argsToLocals, Value.category]; done) | rfl
set_option maxRecDepth 65536 in
set_option maxHeartbeats 40000000 in
theorem rm3 (l : Launch) (Z : State) (a0 : Array Value) (hw : ∀ d ∈ tables_1, d.before a0 Z = true) (ws : List Jvm.Cond) (a1 : Addr) (p2 : Int32) (p3 : Int32) (b1 : Addr) (kd : ClassId) (ps : Nat → Nat) (r : Nat → Nat) (i : Nat) (j : Nat) (w1 : Int32) (h0 : Heap) (n0 : Nat) (Z0 : n0 ≤ h0.size) (E_a1 : Exa Z h0 a1 "com/example/vertumnus/vertumnus/Partitions") (F_parents_a1 : Fld Z h0 a1 "com/example/vertumnus/vertumnus/Partitions" "parents" "[I" (.ref b1)) (V_b1 : Arv Z h0 b1 kd .int (4 : Int32) (own_l ps) (.int (0 : Int32))) (F_count_a1 : Fld Z h0 a1 "com/example/vertumnus/vertumnus/Partitions" "count" "I" (.int w1)) (ge_a1 : n0 ≤ a1) (ge_b1 : n0 ≤ b1) (ne_a1_b1 : a1 ≠ b1) (hI : own_Inv ps r) (hi : i < 4) (hj : j < 4) (hp : p2 = Int32.ofNat i) (hq : p3 = Int32.ofNat j) :
    MetFree l (⟨"com/example/vertumnus/vertumnus/Partitions", "link", "(II)V"⟩ : MethodName) (head1 (Jvm.Cond.code (⟨"com/example/vertumnus/vertumnus/Partitions", "link", "(II)V"⟩ : MethodName) prog_3_method_2_code 5 none :: ws) ({ frames := 1, cells := 0, slots := 0, locals := 15 } : Room)) (fun a U => a = #[(.ref a1), (.int p2), (.int p3)] ∧ Z.Warmed39 U.vm ∧ U.heap = h0) (fun _ _ _ _ _ => True) (fun _ U o U' => ∃ v L, o = .returned v ∧ Qrm3 Z a1 p2 p3 b1 kd ps r i j w1 h0 n0 v U'.heap L ∧ FrameEnd U o U' L ({ frames := 1, cells := 0, slots := 0, locals := 15 } : Room).cells ({ frames := 1, cells := 0, slots := 0, locals := 15 } : Room).slots) := by
  refine MetFree.of_bodySF (plainFor_of_name pn_0) hisR ?_
  intro p e s m args below meth c s₁ Bd hml0 hP hK
  obtain ⟨rfl, hZ, hh⟩ := hP
  have hx := Bd.exec
  have hby := Bd.bytes
  have hml : c.maxLocals = 5 := hml0
  have hown : s.vm.findClass "com/example/vertumnus/vertumnus/Partitions" = some m.cls := findClass_of_methodNamed Bd.named
  have hnm := (name_of_methodNamed Bd.named Bd.method).1
  have X0 : Stand p l e ({ frames := 1, cells := 0, slots := 0, locals := 15 } : Room) s m #[(.ref a1), (.int p2), (.int p3)] below meth c s₁ [] 0 0 := Stand.of_body Bd
  have e0 : s₁.heap = h0 := by rw [← hh, Bd.state]; rfl
  have N0 := Fr.nil n0
  have pre0 : ∀ t, Steps p.tables e below (s₁.setTop (mkF m 0 #[.val (.ref a1), .val (.int p2), .val (.int p3), .unset, .unset] [])) t → Steps p.tables e below (s₁.setTop (entryFrame m #[(.ref a1), (.int p2), (.int p3)] 5)) t := fun t k => castTop (ef_3 m a1 p2 p3) k
  subst hp hq
  have hri := hI.2.2.2.1 i hi
  have hrj := hI.2.2.2.1 j hj
  have pre1 : ∀ t, Steps p.tables e below (s₁.setTop (mkF m 2 #[.val (.ref a1), .val (.int (Int32.ofNat i)), .val (.int (Int32.ofNat j)), .unset, .unset] [(.int (Int32.ofNat i)), (.ref a1)])) t → Steps p.tables e below (s₁.setTop (entryFrame m #[(.ref a1), (.int (Int32.ofNat i)), (.int (Int32.ofNat j))] 5)) t := by
    intro t kt
    refine pre0 t ?_
    show Steps p.tables e below (s₁.setTop (mkF m 0 #[.val (.ref a1), .val (.int (Int32.ofNat i)), .val (.int (Int32.ofNat j)), .unset, .unset] [])) _
    refine XS.aloadN X0.here hx rfl (hb hby d3_0) rfl rfl ?_
    show Steps p.tables e below (s₁.setTop (mkF m 1 #[.val (.ref a1), .val (.int (Int32.ofNat i)), .val (.int (Int32.ofNat j)), .unset, .unset] [(.ref a1)])) _
    refine XS.iloadN X0.here hx rfl (hb hby d3_1) rfl ?_
    exact kt
  obtain ⟨cq2, kq2, q2a, q2b, q2c⟩ := isOf hZ e0 E_a1
  obtain ⟨_, _, ⟨T2, L2, k2, n2⟩, -, X2, ⟨Lc2, hQ2, l2, y2, z2⟩, st2⟩ := X0.virtualBack hx (y := (⟨"com/example/vertumnus/vertumnus/Partitions", "partitionOf", "(I)I"⟩ : MethodName)) (z := (⟨"com/example/vertumnus/vertumnus/Partitions", "partitionOf", "(I)I"⟩ : MethodName)) hown (mvT hZ (hw _ (List.mem_of_getElem? (i := 19) rfl))) (mvT hZ (hw _ (List.mem_of_getElem? (i := 20) rfl))) (notFace_of_selects (args := #[]) (mvT hZ (hw _ (List.mem_of_getElem? (i := 22) rfl)))) (mvT hZ (hw _ (List.mem_of_getElem? (i := 22) rfl))) (mvT hZ (hw _ (List.mem_of_getElem? (i := 21) rfl))) (by decide) (backOf (W := 0) (rm4 l Z a0 hw [] a1 (Int32.ofNat i) b1 kd ps r i h0 n0 Z0 F_parents_a1 V_b1 ge_b1 ne_a1_b1 (hI) (hi) (rfl)) hZ (hw _ (List.mem_of_getElem? (i := 23) rfl)) (hw _ (List.mem_of_getElem? (i := 3) rfl)) (by decide) (by decide)) q2a q2c (g := (mkF m 2 #[.val (.ref a1), .val (.int (Int32.ofNat i)), .val (.int (Int32.ofNat j)), .unset, .unset] [(.int (Int32.ofNat i)), (.ref a1)])) rfl (by rw [hml]; rfl) (Steps.refl _) (argsL := [(.int (Int32.ofNat i))]) (rest := []) (lenOf pd_0 rfl) rfl (by show 2 * 0 + _ ≤ _; exact Nat.le_of_eq rfl) (hb hby d3_2) (fun _ _ => ⟨rfl, e0, (by decide : 0 + 0 ≤ _), (by decide : 0 + 0 ≤ _)⟩)
  dsimp only [Pt.U, Pt.locs, Pt.cells, Pt.slots] at X2 l2 y2 z2 st2 hQ2
  subst l2 y2 z2
  obtain ⟨pz_2, rfl, N2q, KC2, P2_0, P2_1, R2_0⟩ := hQ2
  have N2 := Fr.app N0 N2q
  have Z2 : n0 ≤ T2.heap.size := Nat.le_trans Z0 KC2.1
  have K2 : Keep h0 T2.heap [a1, b1] := (Keep.refl h0 [a1, b1]).trans KC2 (allS (Or.inl (List.mem_of_getElem? (i := 1) rfl)) all0)
  have E_a1_3 := E_a1.keep KC2
  have F_parents_a1_4 := F_parents_a1.keep KC2 (ninS ne_a1_b1 nin0)
  have F_count_a1_6 := F_count_a1.keep KC2 (ninS ne_a1_b1 nin0)
  have F_parents_a1_2 : Fld Z T2.heap a1 "com/example/vertumnus/vertumnus/Partitions" "parents" "[I" (.ref b1) := P2_0
  have V_b1_2 : Arv Z T2.heap b1 kd .int (4 : Int32) (own_l pz_2) (.int (0 : Int32)) := P2_1
  have pre2 : ∀ t, Steps p.tables e below (T2.setTop (mkF m 5 #[.val (.ref a1), .val (.int (Int32.ofNat i)), .val (.int (Int32.ofNat j)), .unset, .unset] [(.int (Int32.ofNat (r i)))])) t → Steps p.tables e below (s₁.setTop (entryFrame m #[(.ref a1), (.int (Int32.ofNat i)), (.int (Int32.ofNat j))] 5)) t := fun t kt => pre1 t (st2.trans kt)
  have pre7 : ∀ t, Steps p.tables e below (T2.setTop (mkF m 8 #[.val (.ref a1), .val (.int (Int32.ofNat i)), .val (.int (Int32.ofNat j)), .val (.int (Int32.ofNat (r i))), .unset] [(.int (Int32.ofNat j)), (.ref a1)])) t → Steps p.tables e below (s₁.setTop (entryFrame m #[(.ref a1), (.int (Int32.ofNat i)), (.int (Int32.ofNat j))] 5)) t := by
    intro t kt
    refine pre2 t ?_
    show Steps p.tables e below (T2.setTop (mkF m 5 #[.val (.ref a1), .val (.int (Int32.ofNat i)), .val (.int (Int32.ofNat j)), .unset, .unset] [(.int (Int32.ofNat (r i)))])) _
    refine XS.istoreN X2.here hx rfl (hb hby d3_5) rfl (l' := #[.val (.ref a1), .val (.int (Int32.ofNat i)), .val (.int (Int32.ofNat j)), .val (.int (Int32.ofNat (r i))), .unset]) rfl ?_
    show Steps p.tables e below (T2.setTop (mkF m 6 #[.val (.ref a1), .val (.int (Int32.ofNat i)), .val (.int (Int32.ofNat j)), .val (.int (Int32.ofNat (r i))), .unset] [])) _
    refine XS.aloadN X2.here hx rfl (hb hby d3_6) rfl rfl ?_
    show Steps p.tables e below (T2.setTop (mkF m 7 #[.val (.ref a1), .val (.int (Int32.ofNat i)), .val (.int (Int32.ofNat j)), .val (.int (Int32.ofNat (r i))), .unset] [(.ref a1)])) _
    refine XS.iloadN X2.here hx rfl (hb hby d3_7) rfl ?_
    exact kt
  obtain ⟨cq8, kq8, q8a, q8b, q8c⟩ := isOf hZ rfl E_a1_3
  obtain ⟨_, _, ⟨T8, L8, k8, n8⟩, -, X8, ⟨Lc8, hQ8, l8, y8, z8⟩, st8⟩ := X2.virtualBack hx (y := (⟨"com/example/vertumnus/vertumnus/Partitions", "partitionOf", "(I)I"⟩ : MethodName)) (z := (⟨"com/example/vertumnus/vertumnus/Partitions", "partitionOf", "(I)I"⟩ : MethodName)) hown (mvT hZ (hw _ (List.mem_of_getElem? (i := 19) rfl))) (mvT hZ (hw _ (List.mem_of_getElem? (i := 20) rfl))) (notFace_of_selects (args := #[]) (mvT hZ (hw _ (List.mem_of_getElem? (i := 22) rfl)))) (mvT hZ (hw _ (List.mem_of_getElem? (i := 22) rfl))) (mvT hZ (hw _ (List.mem_of_getElem? (i := 21) rfl))) (by decide) (backOf (W := 0) (rm4 l Z a0 hw [] a1 (Int32.ofNat j) b1 kd pz_2 r j T2.heap n0 Z2 F_parents_a1_2 V_b1_2 ge_b1 ne_a1_b1 (R2_0) (hj) (rfl)) hZ (hw _ (List.mem_of_getElem? (i := 23) rfl)) (hw _ (List.mem_of_getElem? (i := 3) rfl)) (by decide) (by decide)) q8a q8c (g := (mkF m 8 #[.val (.ref a1), .val (.int (Int32.ofNat i)), .val (.int (Int32.ofNat j)), .val (.int (Int32.ofNat (r i))), .unset] [(.int (Int32.ofNat j)), (.ref a1)])) rfl (by rw [hml]; rfl) (Steps.refl _) (argsL := [(.int (Int32.ofNat j))]) (rest := []) (lenOf pd_0 rfl) rfl (by show 2 * 0 + _ ≤ _; exact Nat.le_of_eq rfl) (hb hby d3_8) (fun _ _ => ⟨rfl, rfl, (by decide : 0 + 0 ≤ _), (by decide : 0 + 0 ≤ _)⟩)
  dsimp only [Pt.U, Pt.locs, Pt.cells, Pt.slots] at X8 l8 y8 z8 st8 hQ8
  subst l8 y8 z8
  obtain ⟨pz_8, rfl, N8q, KC8, P8_0, P8_1, R8_0⟩ := hQ8
  have N8 := Fr.app N2 N8q
  have Z8 : n0 ≤ T8.heap.size := Nat.le_trans Z2 KC8.1
  have K8 : Keep h0 T8.heap [a1, b1] := K2.trans KC8 (allS (Or.inl (List.mem_of_getElem? (i := 1) rfl)) all0)
  have E_a1_9 := E_a1_3.keep KC8
  have F_parents_a1_2_10 := F_parents_a1_2.keep KC8 (ninS ne_a1_b1 nin0)
  have F_count_a1_11 := F_count_a1_6.keep KC8 (ninS ne_a1_b1 nin0)
  have F_parents_a1_8 : Fld Z T8.heap a1 "com/example/vertumnus/vertumnus/Partitions" "parents" "[I" (.ref b1) := P8_0
  have V_b1_8 : Arv Z T8.heap b1 kd .int (4 : Int32) (own_l pz_8) (.int (0 : Int32)) := P8_1
  have pre8 : ∀ t, Steps p.tables e below (T8.setTop (mkF m 11 #[.val (.ref a1), .val (.int (Int32.ofNat i)), .val (.int (Int32.ofNat j)), .val (.int (Int32.ofNat (r i))), .unset] [(.int (Int32.ofNat (r j)))])) t → Steps p.tables e below (s₁.setTop (entryFrame m #[(.ref a1), (.int (Int32.ofNat i)), (.int (Int32.ofNat j))] 5)) t := fun t kt => pre7 t (st8.trans kt)
  have pre13 : ∀ t, Steps p.tables e below (T8.setTop (mkF m 16 #[.val (.ref a1), .val (.int (Int32.ofNat i)), .val (.int (Int32.ofNat j)), .val (.int (Int32.ofNat (r i))), .val (.int (Int32.ofNat (r j)))] [(.int (Int32.ofNat (r j))), (.int (Int32.ofNat (r i)))])) t → Steps p.tables e below (s₁.setTop (entryFrame m #[(.ref a1), (.int (Int32.ofNat i)), (.int (Int32.ofNat j))] 5)) t := by
    intro t kt
    refine pre8 t ?_
    show Steps p.tables e below (T8.setTop (mkF m 11 #[.val (.ref a1), .val (.int (Int32.ofNat i)), .val (.int (Int32.ofNat j)), .val (.int (Int32.ofNat (r i))), .unset] [(.int (Int32.ofNat (r j)))])) _
    refine XS.istore X8.here hx rfl (hb hby d3_11) rfl (l' := #[.val (.ref a1), .val (.int (Int32.ofNat i)), .val (.int (Int32.ofNat j)), .val (.int (Int32.ofNat (r i))), .val (.int (Int32.ofNat (r j)))]) rfl ?_
    show Steps p.tables e below (T8.setTop (mkF m 13 #[.val (.ref a1), .val (.int (Int32.ofNat i)), .val (.int (Int32.ofNat j)), .val (.int (Int32.ofNat (r i))), .val (.int (Int32.ofNat (r j)))] [])) _
    refine XS.iloadN X8.here hx rfl (hb hby d3_13) rfl ?_
    show Steps p.tables e below (T8.setTop (mkF m 14 #[.val (.ref a1), .val (.int (Int32.ofNat i)), .val (.int (Int32.ofNat j)), .val (.int (Int32.ofNat (r i))), .val (.int (Int32.ofNat (r j)))] [(.int (Int32.ofNat (r i)))])) _
    refine XS.iload X8.here hx rfl (hb hby d3_14) rfl ?_
    exact kt
  by_cases hc16 : (Int32.ofNat (r i)) = (Int32.ofNat (r j))
  · have pre14 : ∀ t, Steps p.tables e below (T8.setTop (mkF m 46 #[.val (.ref a1), .val (.int (Int32.ofNat i)), .val (.int (Int32.ofNat j)), .val (.int (Int32.ofNat (r i))), .val (.int (Int32.ofNat (r j)))] [])) t → Steps p.tables e below (s₁.setTop (entryFrame m #[(.ref a1), (.int (Int32.ofNat i)), (.int (Int32.ofNat j))] 5)) t := by
      intro t kt
      refine pre13 t ?_
      show Steps p.tables e below (T8.setTop (mkF m 16 #[.val (.ref a1), .val (.int (Int32.ofNat i)), .val (.int (Int32.ofNat j)), .val (.int (Int32.ofNat (r i))), .val (.int (Int32.ofNat (r j)))] [(.int (Int32.ofNat (r j))), (.int (Int32.ofNat (r i)))])) _
      refine XS.icmpYes X8.here hx rfl (pc0 := 16) (pc' := 46) rfl (hb hby d3_16) rfl (teq hc16).1 (by decide) (by decide) ?_
      exact kt
    have heq : r i = r j := own_inj hri hrj hc16
    have FC : Fld Z T8.heap a1 "com/example/vertumnus/vertumnus/Partitions" "count" "I" (.int (if r i = r j then w1 else w1 - 1)) := by rw [if_pos heq]; exact F_count_a1_11
    obtain ⟨fs, hr, hrun, hended, hW, hsame⟩ := X8.leave (v := none) (fun _ => rfl)
    refine ⟨_, _, pre14 _ ?_, hrun, hended, _, _, rfl, ?_, ⟨_, rfl⟩, hW, hsame.mono (by decide) (by decide)⟩
    · show Steps p.tables e below (T8.setTop (mkF m 46 #[.val (.ref a1), .val (.int (Int32.ofNat i)), .val (.int (Int32.ofNat j)), .val (.int (Int32.ofNat (r i))), .val (.int (Int32.ofNat (r j)))] [])) _
      exact X8.returnOut hx Bd.returns (hb hby d3_46) hr
    · show Qrm3 Z a1 (Int32.ofNat i) (Int32.ofNat j) b1 kd ps r i j w1 h0 n0 _ T8.heap _
      exact ⟨pz_8, rfl, N8, K8, E_a1_9, F_parents_a1_8, V_b1_8, FC, (by rw [own_lk_eq heq]; exact R8_0)⟩
  · have pre15 : ∀ t, Steps p.tables e below (T8.setTop (mkF m 19 #[.val (.ref a1), .val (.int (Int32.ofNat i)), .val (.int (Int32.ofNat j)), .val (.int (Int32.ofNat (r i))), .val (.int (Int32.ofNat (r j)))] [])) t → Steps p.tables e below (s₁.setTop (entryFrame m #[(.ref a1), (.int (Int32.ofNat i)), (.int (Int32.ofNat j))] 5)) t := by
      intro t kt
      refine pre13 t ?_
      show Steps p.tables e below (T8.setTop (mkF m 16 #[.val (.ref a1), .val (.int (Int32.ofNat i)), .val (.int (Int32.ofNat j)), .val (.int (Int32.ofNat (r i))), .val (.int (Int32.ofNat (r j)))] [(.int (Int32.ofNat (r j))), (.int (Int32.ofNat (r i)))])) _
      refine XS.icmpNo X8.here hx rfl (hb hby d3_16) rfl (feq hc16).1 ?_
      exact kt
    have pre16 : ∀ t, Steps p.tables e below (T8.setTop (mkF m 20 #[.val (.ref a1), .val (.int (Int32.ofNat i)), .val (.int (Int32.ofNat j)), .val (.int (Int32.ofNat (r i))), .val (.int (Int32.ofNat (r j)))] [(.ref a1)])) t → Steps p.tables e below (s₁.setTop (entryFrame m #[(.ref a1), (.int (Int32.ofNat i)), (.int (Int32.ofNat j))] 5)) t := by
      intro t kt
      refine pre15 t ?_
      show Steps p.tables e below (T8.setTop (mkF m 19 #[.val (.ref a1), .val (.int (Int32.ofNat i)), .val (.int (Int32.ofNat j)), .val (.int (Int32.ofNat (r i))), .val (.int (Int32.ofNat (r j)))] [])) _
      refine XS.aloadN X8.here hx rfl (hb hby d3_19) rfl rfl ?_
      exact kt
    obtain ⟨T17, X17, e17, st17⟩ := getF X8 hx hZ hown (host := "") (Or.inl (hw _ (List.mem_of_getElem? (i := 10) rfl))) Via.refl rfl F_parents_a1_8 (g := (mkF m 20 #[.val (.ref a1), .val (.int (Int32.ofNat i)), .val (.int (Int32.ofNat j)), .val (.int (Int32.ofNat (r i))), .val (.int (Int32.ofNat (r j)))] [(.ref a1)])) rfl rfl (hb hby d3_20)
    have pre17 : ∀ t, Steps p.tables e below (T17.setTop (mkF m 23 #[.val (.ref a1), .val (.int (Int32.ofNat i)), .val (.int (Int32.ofNat j)), .val (.int (Int32.ofNat (r i))), .val (.int (Int32.ofNat (r j)))] [(.ref b1)])) t → Steps p.tables e below (s₁.setTop (entryFrame m #[(.ref a1), (.int (Int32.ofNat i)), (.int (Int32.ofNat j))] 5)) t := fun t kt => pre16 t (st17 _ kt)
    have pre18 : ∀ t, Steps p.tables e below (T17.setTop (mkF m 26 #[.val (.ref a1), .val (.int (Int32.ofNat i)), .val (.int (Int32.ofNat j)), .val (.int (Int32.ofNat (r i))), .val (.int (Int32.ofNat (r j)))] [(.int (Int32.ofNat (r j))), (.int (Int32.ofNat (r i))), (.ref b1)])) t → Steps p.tables e below (s₁.setTop (entryFrame m #[(.ref a1), (.int (Int32.ofNat i)), (.int (Int32.ofNat j))] 5)) t := by
      intro t kt
      refine pre17 t ?_
      show Steps p.tables e below (T17.setTop (mkF m 23 #[.val (.ref a1), .val (.int (Int32.ofNat i)), .val (.int (Int32.ofNat j)), .val (.int (Int32.ofNat (r i))), .val (.int (Int32.ofNat (r j)))] [(.ref b1)])) _
      refine XS.iloadN X17.here hx rfl (hb hby d3_23) rfl ?_
      show Steps p.tables e below (T17.setTop (mkF m 24 #[.val (.ref a1), .val (.int (Int32.ofNat i)), .val (.int (Int32.ofNat j)), .val (.int (Int32.ofNat (r i))), .val (.int (Int32.ofNat (r j)))] [(.int (Int32.ofNat (r i))), (.ref b1)])) _
      refine XS.iload X17.here hx rfl (hb hby d3_24) rfl ?_
      exact kt
    obtain ⟨_, _, ⟨T19, L19, k19, n19⟩, -, X19, ⟨Lc19, hQ19, l19, y19, z19⟩, st19⟩ := Jvm.LawKit.callS X17 hx (y := (⟨"java/lang/Math", "max", "(II)I"⟩ : MethodName)) hown (mvT hZ (hw _ (List.mem_of_getElem? (i := 24) rfl))) (mvT hZ (hw _ (List.mem_of_getElem? (i := 25) rfl))) (mvT hZ (hw _ (List.mem_of_getElem? (i := 26) rfl))) (mvT hZ (hw _ (List.mem_of_getElem? (i := 27) rfl))) (by decide) (backOf (W := 1) (rm5 l Z a0 hw [] (Int32.ofNat (r i)) (Int32.ofNat (r j)) T8.heap n0) hZ (hw _ (List.mem_of_getElem? (i := 27) rfl)) (hw _ (List.mem_of_getElem? (i := 26) rfl)) (by decide) (by decide)) (g := (mkF m 26 #[.val (.ref a1), .val (.int (Int32.ofNat i)), .val (.int (Int32.ofNat j)), .val (.int (Int32.ofNat (r i))), .val (.int (Int32.ofNat (r j)))] [(.int (Int32.ofNat (r j))), (.int (Int32.ofNat (r i))), (.ref b1)])) rfl (by rw [hml]; rfl) (argsL := [(.int (Int32.ofNat (r i))), (.int (Int32.ofNat (r j)))]) (rest := [(.ref b1)]) (lenOf pd_1 rfl) rfl (by show 2 * 0 + _ ≤ _; exact Nat.le_of_eq rfl) (hb hby d3_26) (fun _ _ => ⟨rfl, e17, (by decide : 0 + 0 ≤ _), (by decide : 0 + 0 ≤ _)⟩)
    dsimp only [Pt.U, Pt.locs, Pt.cells, Pt.slots] at X19 l19 y19 z19 st19 hQ19
    subst l19 y19 z19
    obtain ⟨rfl, N19q, e19⟩ := hQ19
    have N19 := Fr.app N8 N19q
    have pre19 : ∀ t, Steps p.tables e below (T19.setTop (mkF m 29 #[.val (.ref a1), .val (.int (Int32.ofNat i)), .val (.int (Int32.ofNat j)), .val (.int (Int32.ofNat (r i))), .val (.int (Int32.ofNat (r j)))] [(.int (own_f5 (Int32.ofNat (r i)) (Int32.ofNat (r j)))), (.ref b1)])) t → Steps p.tables e below (s₁.setTop (entryFrame m #[(.ref a1), (.int (Int32.ofNat i)), (.int (Int32.ofNat j))] 5)) t := fun t kt => pre18 t (st19 _ kt)
    rw [own_maxN hri hrj] at pre19
    have pre20 : ∀ t, Steps p.tables e below (T19.setTop (mkF m 32 #[.val (.ref a1), .val (.int (Int32.ofNat i)), .val (.int (Int32.ofNat j)), .val (.int (Int32.ofNat (r i))), .val (.int (Int32.ofNat (r j)))] [(.int (Int32.ofNat (r j))), (.int (Int32.ofNat (r i))), (.int (Int32.ofNat (max (r i) (r j)))), (.ref b1)])) t → Steps p.tables e below (s₁.setTop (entryFrame m #[(.ref a1), (.int (Int32.ofNat i)), (.int (Int32.ofNat j))] 5)) t := by
      intro t kt
      refine pre19 t ?_
      show Steps p.tables e below (T19.setTop (mkF m 29 #[.val (.ref a1), .val (.int (Int32.ofNat i)), .val (.int (Int32.ofNat j)), .val (.int (Int32.ofNat (r i))), .val (.int (Int32.ofNat (r j)))] [(.int (Int32.ofNat (max (r i) (r j)))), (.ref b1)])) _
      refine XS.iloadN X19.here hx rfl (hb hby d3_29) rfl ?_
      show Steps p.tables e below (T19.setTop (mkF m 30 #[.val (.ref a1), .val (.int (Int32.ofNat i)), .val (.int (Int32.ofNat j)), .val (.int (Int32.ofNat (r i))), .val (.int (Int32.ofNat (r j)))] [(.int (Int32.ofNat (r i))), (.int (Int32.ofNat (max (r i) (r j)))), (.ref b1)])) _
      refine XS.iload X19.here hx rfl (hb hby d3_30) rfl ?_
      exact kt
    obtain ⟨_, _, ⟨T21, L21, k21, n21⟩, -, X21, ⟨Lc21, hQ21, l21, y21, z21⟩, st21⟩ := Jvm.LawKit.callS X19 hx (y := (⟨"java/lang/Math", "min", "(II)I"⟩ : MethodName)) hown (mvT hZ (hw _ (List.mem_of_getElem? (i := 28) rfl))) (mvT hZ (hw _ (List.mem_of_getElem? (i := 29) rfl))) (mvT hZ (hw _ (List.mem_of_getElem? (i := 26) rfl))) (mvT hZ (hw _ (List.mem_of_getElem? (i := 30) rfl))) (by decide) (backOf (W := 2) (rm6 l Z a0 hw [] (Int32.ofNat (r i)) (Int32.ofNat (r j)) T8.heap n0) hZ (hw _ (List.mem_of_getElem? (i := 30) rfl)) (hw _ (List.mem_of_getElem? (i := 26) rfl)) (by decide) (by decide)) (g := (mkF m 32 #[.val (.ref a1), .val (.int (Int32.ofNat i)), .val (.int (Int32.ofNat j)), .val (.int (Int32.ofNat (r i))), .val (.int (Int32.ofNat (r j)))] [(.int (Int32.ofNat (r j))), (.int (Int32.ofNat (r i))), (.int (Int32.ofNat (max (r i) (r j)))), (.ref b1)])) rfl (by rw [hml]; rfl) (argsL := [(.int (Int32.ofNat (r i))), (.int (Int32.ofNat (r j)))]) (rest := [(.int (Int32.ofNat (max (r i) (r j)))), (.ref b1)]) (lenOf pd_1 rfl) rfl (by show 2 * 0 + _ ≤ _; exact Nat.le_of_eq rfl) (hb hby d3_32) (fun _ _ => ⟨rfl, e19, (by decide : 0 + 0 ≤ _), (by decide : 0 + 0 ≤ _)⟩)
    dsimp only [Pt.U, Pt.locs, Pt.cells, Pt.slots] at X21 l21 y21 z21 st21 hQ21
    subst l21 y21 z21
    obtain ⟨rfl, N21q, e21⟩ := hQ21
    have N21 := Fr.app N19 N21q
    have pre21 : ∀ t, Steps p.tables e below (T21.setTop (mkF m 35 #[.val (.ref a1), .val (.int (Int32.ofNat i)), .val (.int (Int32.ofNat j)), .val (.int (Int32.ofNat (r i))), .val (.int (Int32.ofNat (r j)))] [(.int (own_f6 (Int32.ofNat (r i)) (Int32.ofNat (r j)))), (.int (Int32.ofNat (max (r i) (r j)))), (.ref b1)])) t → Steps p.tables e below (s₁.setTop (entryFrame m #[(.ref a1), (.int (Int32.ofNat i)), (.int (Int32.ofNat j))] 5)) t := fun t kt => pre20 t (st21 _ kt)
    rw [own_minN hri hrj] at pre21
    obtain ⟨cl22, Ar22, q22, S22, M22, H22, G22⟩ := (id V_b1_8)
    have hin22 : ¬ ((Int32.ofNat (max (r i) (r j))) < 0 ∨ cl22.slots.size ≤ ((Int32.ofNat (max (r i) (r j)))).toNatClampNeg) := inb_of S22 (own_inb (by omega))
    obtain ⟨T22, h22, X22, e22, W22, st22⟩ := stI X21 hx hZ e21 Ar22 (j := (Int32.ofNat (max (r i) (r j)))) hin22 (g := (mkF m 35 #[.val (.ref a1), .val (.int (Int32.ofNat i)), .val (.int (Int32.ofNat j)), .val (.int (Int32.ofNat (r i))), .val (.int (Int32.ofNat (r j)))] [(.int (Int32.ofNat (min (r i) (r j)))), (.int (Int32.ofNat (max (r i) (r j)))), (.ref b1)])) rfl rfl (hb hby d3_35)
    have V_b1_8_22 := Arv.set Ar22 q22 S22 M22 H22 G22 rfl W22 (max (r i) (r j)) (own_clamp (by omega)) (show (max (r i) (r j)) < 4 from (by omega))
    have N22 := Fr.snoc X22 N21 ge_b1
    have K22 : Keep h0 h22 [a1, b1] := K8.wr W22 (Or.inl (List.mem_of_getElem? (i := 1) rfl))
    have Z22 : n0 ≤ h22.size := Nat.le_trans Z8 (Keep.of_wr W22).1
    have E_a1_23 := E_a1_9.wr W22
    have F_parents_a1_8_24 := F_parents_a1_8.other W22 (Or.inl ne_a1_b1)
    have F_count_a1_25 := F_count_a1_11.other W22 (Or.inl ne_a1_b1)
    rw [own_set pz_8 _ (by omega)] at V_b1_8_22
    have pre22 : ∀ t, Steps p.tables e below (T22.setTop (mkF m 36 #[.val (.ref a1), .val (.int (Int32.ofNat i)), .val (.int (Int32.ofNat j)), .val (.int (Int32.ofNat (r i))), .val (.int (Int32.ofNat (r j)))] [])) t → Steps p.tables e below (s₁.setTop (entryFrame m #[(.ref a1), (.int (Int32.ofNat i)), (.int (Int32.ofNat j))] 5)) t := fun t kt => pre21 t (st22 _ kt)
    have pre27 : ∀ t, Steps p.tables e below (T22.setTop (mkF m 38 #[.val (.ref a1), .val (.int (Int32.ofNat i)), .val (.int (Int32.ofNat j)), .val (.int (Int32.ofNat (r i))), .val (.int (Int32.ofNat (r j)))] [(.ref a1), (.ref a1)])) t → Steps p.tables e below (s₁.setTop (entryFrame m #[(.ref a1), (.int (Int32.ofNat i)), (.int (Int32.ofNat j))] 5)) t := by
      intro t kt
      refine pre22 t ?_
      show Steps p.tables e below (T22.setTop (mkF m 36 #[.val (.ref a1), .val (.int (Int32.ofNat i)), .val (.int (Int32.ofNat j)), .val (.int (Int32.ofNat (r i))), .val (.int (Int32.ofNat (r j)))] [])) _
      refine XS.aloadN X22.here hx rfl (hb hby d3_36) rfl rfl ?_
      show Steps p.tables e below (T22.setTop (mkF m 37 #[.val (.ref a1), .val (.int (Int32.ofNat i)), .val (.int (Int32.ofNat j)), .val (.int (Int32.ofNat (r i))), .val (.int (Int32.ofNat (r j)))] [(.ref a1)])) _
      refine XS.dup X22.here hx rfl (hb hby d3_37) rfl rfl ?_
      exact kt
    obtain ⟨T28, X28, e28, st28⟩ := getF X22 hx hZ hown (host := "") (Or.inl (hw _ (List.mem_of_getElem? (i := 12) rfl))) Via.refl e22 F_count_a1_25 (g := (mkF m 38 #[.val (.ref a1), .val (.int (Int32.ofNat i)), .val (.int (Int32.ofNat j)), .val (.int (Int32.ofNat (r i))), .val (.int (Int32.ofNat (r j)))] [(.ref a1), (.ref a1)])) rfl rfl (hb hby d3_38)
    have pre28 : ∀ t, Steps p.tables e below (T28.setTop (mkF m 41 #[.val (.ref a1), .val (.int (Int32.ofNat i)), .val (.int (Int32.ofNat j)), .val (.int (Int32.ofNat (r i))), .val (.int (Int32.ofNat (r j)))] [(.int w1), (.ref a1)])) t → Steps p.tables e below (s₁.setTop (entryFrame m #[(.ref a1), (.int (Int32.ofNat i)), (.int (Int32.ofNat j))] 5)) t := fun t kt => pre27 t (st28 _ kt)
    have pre29 : ∀ t, Steps p.tables e below (T28.setTop (mkF m 43 #[.val (.ref a1), .val (.int (Int32.ofNat i)), .val (.int (Int32.ofNat j)), .val (.int (Int32.ofNat (r i))), .val (.int (Int32.ofNat (r j)))] [(.int (w1 - (1 : Int32))), (.ref a1)])) t → Steps p.tables e below (s₁.setTop (entryFrame m #[(.ref a1), (.int (Int32.ofNat i)), (.int (Int32.ofNat j))] 5)) t := by
      intro t kt
      refine pre28 t ?_
      show Steps p.tables e below (T28.setTop (mkF m 41 #[.val (.ref a1), .val (.int (Int32.ofNat i)), .val (.int (Int32.ofNat j)), .val (.int (Int32.ofNat (r i))), .val (.int (Int32.ofNat (r j)))] [(.int w1), (.ref a1)])) _
      refine XS.iconst X28.here hx rfl (hb hby d3_41) ?_
      show Steps p.tables e below (T28.setTop (mkF m 42 #[.val (.ref a1), .val (.int (Int32.ofNat i)), .val (.int (Int32.ofNat j)), .val (.int (Int32.ofNat (r i))), .val (.int (Int32.ofNat (r j)))] [(.int (1 : Int32)), (.int w1), (.ref a1)])) _
      refine XS.isub X28.here hx rfl (hb hby d3_42) rfl ?_
      exact kt
    obtain ⟨T30, h30, X30, e30, W30, st30⟩ := putF X28 hx hZ hown (host := "") (Or.inl (hw _ (List.mem_of_getElem? (i := 12) rfl))) Via.refl e28 F_count_a1_25 E_a1_23 (Or.inl (hw _ (List.mem_of_getElem? (i := 13) rfl))) (hw _ (List.mem_of_getElem? (i := 2) rfl)) (ty := .int) (by decide) rfl rfl (g := (mkF m 43 #[.val (.ref a1), .val (.int (Int32.ofNat i)), .val (.int (Int32.ofNat j)), .val (.int (Int32.ofNat (r i))), .val (.int (Int32.ofNat (r j)))] [(.int (w1 - (1 : Int32))), (.ref a1)])) rfl rfl (hb hby d3_43)
    have N30 := Fr.snoc X30 N22 ge_a1
    have K30 : Keep h0 h30 [a1, b1] := K22.wr W30 (Or.inl (List.mem_of_getElem? (i := 0) rfl))
    have Z30 : n0 ≤ h30.size := Nat.le_trans Z22 (Keep.of_wr W30).1
    have E_a1_31 := E_a1_23.wr W30
    have F_parents_a1_8_32 := F_parents_a1_8_24.other W30 (Or.inr (slot_ne (Or.inr (hw _ (List.mem_of_getElem? (i := 11) rfl))) (Or.inl (hw _ (List.mem_of_getElem? (i := 13) rfl))) (by decide) (t := (.array .int)) (t' := .int) (by decide) (by decide)))
    have F_count_a1_33 := F_count_a1_25.same W30
    have V_b1_8_34 := V_b1_8_22.other W30 (Ne.symm ne_a1_b1)
    have pre30 : ∀ t, Steps p.tables e below (T30.setTop (mkF m 46 #[.val (.ref a1), .val (.int (Int32.ofNat i)), .val (.int (Int32.ofNat j)), .val (.int (Int32.ofNat (r i))), .val (.int (Int32.ofNat (r j)))] [])) t → Steps p.tables e below (s₁.setTop (entryFrame m #[(.ref a1), (.int (Int32.ofNat i)), (.int (Int32.ofNat j))] 5)) t := fun t kt => pre29 t (st30 _ kt)
    have heq : r i ≠ r j := fun z => hc16 (congrArg Int32.ofNat z)
    have FC : Fld Z h30 a1 "com/example/vertumnus/vertumnus/Partitions" "count" "I" (.int (if r i = r j then w1 else w1 - 1)) := by rw [if_neg heq]; exact F_count_a1_33
    obtain ⟨fs, hr, hrun, hended, hW, hsame⟩ := X30.leave (v := none) (fun _ => rfl)
    refine ⟨_, _, pre30 _ ?_, hrun, hended, _, _, rfl, ?_, ⟨_, rfl⟩, hW, hsame.mono (by decide) (by decide)⟩
    · show Steps p.tables e below (T30.setTop (mkF m 46 #[.val (.ref a1), .val (.int (Int32.ofNat i)), .val (.int (Int32.ofNat j)), .val (.int (Int32.ofNat (r i))), .val (.int (Int32.ofNat (r j)))] [])) _
      exact X30.returnOut hx Bd.returns (hb hby d3_46) hr
    · show Qrm3 Z a1 (Int32.ofNat i) (Int32.ofNat j) b1 kd ps r i j w1 h0 n0 _ T30.heap _
      rw [e30]
      exact ⟨(own_upd pz_8 (max (r i) (r j)) (min (r i) (r j))), rfl, N30, K30, E_a1_31, F_parents_a1_8_32, V_b1_8_34, FC, (own_link R8_0 hi hj heq)⟩
def Qrm1 (Z : State) (a1 : Addr) (p2 : Int32) (h0 : Heap) (n0 : Nat) (v : Option Value) (h : Heap) (L : List Loc) : Prop := ∃ (bz : Addr) (kz : ClassId), v = none ∧ Fr n0 L ∧ Keep h0 h [a1] ∧ Exa Z h a1 "com/example/vertumnus/vertumnus/Partitions" ∧ Fld Z h a1 "com/example/vertumnus/vertumnus/Partitions" "parents" "[I" (.ref bz) ∧ Arv Z h bz kz .int (4 : Int32) (own_l (fun i => i)) (.int (0 : Int32)) ∧ Fld Z h a1 "com/example/vertumnus/vertumnus/Partitions" "count" "I" (.int (4 : Int32)) ∧ n0 ≤ bz ∧ h0.size ≤ bz
theorem d1_0 : decode prog_3_method_1_code 0 = .ok (.aload_n 0, 1) := by decide +kernel
theorem d1_1 : decode prog_3_method_1_code 1 = .ok (.invokespecial 1, 3) := by decide +kernel
theorem d1_4 : decode prog_3_method_1_code 4 = .ok (.iload_n 1, 1) := by decide +kernel
theorem d1_5 : decode prog_3_method_1_code 5 = .ok (.ifCond .ge 17, 3) := by decide +kernel
theorem d1_22 : decode prog_3_method_1_code 22 = .ok (.aload_n 0, 1) := by decide +kernel
theorem d1_23 : decode prog_3_method_1_code 23 = .ok (.iload_n 1, 1) := by decide +kernel
theorem d1_24 : decode prog_3_method_1_code 24 = .ok (.newarray .int, 2) := by decide +kernel
theorem d1_26 : decode prog_3_method_1_code 26 = .ok (.putfield 16, 3) := by decide +kernel
theorem d1_29 : decode prog_3_method_1_code 29 = .ok (.iconst 0, 1) := by decide +kernel
theorem d1_30 : decode prog_3_method_1_code 30 = .ok (.istore_n 2, 1) := by decide +kernel
theorem d1_31 : decode prog_3_method_1_code 31 = .ok (.iload_n 2, 1) := by decide +kernel
theorem d1_32 : decode prog_3_method_1_code 32 = .ok (.iload_n 1, 1) := by decide +kernel
theorem d1_33 : decode prog_3_method_1_code 33 = .ok (.if_icmp .ge 16, 3) := by decide +kernel
theorem d1_36 : decode prog_3_method_1_code 36 = .ok (.aload_n 0, 1) := by decide +kernel
theorem d1_37 : decode prog_3_method_1_code 37 = .ok (.getfield 16, 3) := by decide +kernel
theorem d1_40 : decode prog_3_method_1_code 40 = .ok (.iload_n 2, 1) := by decide +kernel
theorem d1_41 : decode prog_3_method_1_code 41 = .ok (.iload_n 2, 1) := by decide +kernel
theorem d1_42 : decode prog_3_method_1_code 42 = .ok (.iastore, 1) := by decide +kernel
theorem d1_43 : decode prog_3_method_1_code 43 = .ok (.iinc 2 1, 3) := by decide +kernel
theorem d1_46 : decode prog_3_method_1_code 46 = .ok (.goto (-15), 3) := by decide +kernel
theorem d1_49 : decode prog_3_method_1_code 49 = .ok (.aload_n 0, 1) := by decide +kernel
theorem d1_50 : decode prog_3_method_1_code 50 = .ok (.iload_n 1, 1) := by decide +kernel
theorem d1_51 : decode prog_3_method_1_code 51 = .ok (.putfield 22, 3) := by decide +kernel
theorem d1_54 : decode prog_3_method_1_code 54 = .ok (.return_, 1) := by decide +kernel
theorem ef_1 (m : MethodId) (x0 : Addr) (x1 : Int32) : entryFrame m #[(.ref x0), (.int x1)] 3 = mkF m 0 #[.val (.ref x0), .val (.int x1), .unset] [] := by first | (simp [entryFrame, mkF, argsToLocals, Value.category]; done) | rfl
set_option maxRecDepth 65536 in
set_option maxHeartbeats 40000000 in
theorem rm1 (l : Launch) (Z : State) (a0 : Array Value) (hw : ∀ d ∈ tables_1, d.before a0 Z = true) (ws : List Jvm.Cond) (a1 : Addr) (p2 : Int32) (h0 : Heap) (n0 : Nat) (Z0 : n0 ≤ h0.size) (E_a1 : Exa Z h0 a1 "com/example/vertumnus/vertumnus/Partitions") (F_parents_a1 : Fld Z h0 a1 "com/example/vertumnus/vertumnus/Partitions" "parents" "[I" .null) (F_count_a1 : Fld Z h0 a1 "com/example/vertumnus/vertumnus/Partitions" "count" "I" (.int (0 : Int32))) (ge_a1 : n0 ≤ a1) (hp : p2 = (4 : Int32)) :
    MetFree l (⟨"com/example/vertumnus/vertumnus/Partitions", "<init>", "(I)V"⟩ : MethodName) (head1 (Jvm.Cond.code (⟨"com/example/vertumnus/vertumnus/Partitions", "<init>", "(I)V"⟩ : MethodName) prog_3_method_1_code 3 none :: ws) ({ frames := 1, cells := 1, slots := 4, locals := 12 } : Room)) (fun a U => a = #[(.ref a1), (.int p2)] ∧ Z.Warmed39 U.vm ∧ U.heap = h0) (fun _ _ _ _ _ => True) (fun _ U o U' => ∃ v L, o = .returned v ∧ Qrm1 Z a1 p2 h0 n0 v U'.heap L ∧ FrameEnd U o U' L ({ frames := 1, cells := 1, slots := 4, locals := 12 } : Room).cells ({ frames := 1, cells := 1, slots := 4, locals := 12 } : Room).slots) := by
  refine MetFree.of_bodySF (plainFor_of_name pn_0) hisR ?_
  intro p e s m args below meth c s₁ Bd hml0 hP hK
  obtain ⟨rfl, hZ, hh⟩ := hP
  have hx := Bd.exec
  have hby := Bd.bytes
  have hml : c.maxLocals = 3 := hml0
  have hown : s.vm.findClass "com/example/vertumnus/vertumnus/Partitions" = some m.cls := findClass_of_methodNamed Bd.named
  have hnm := (name_of_methodNamed Bd.named Bd.method).1
  have X0 : Stand p l e ({ frames := 1, cells := 1, slots := 4, locals := 12 } : Room) s m #[(.ref a1), (.int p2)] below meth c s₁ [] 0 0 := Stand.of_body Bd
  have e0 : s₁.heap = h0 := by rw [← hh, Bd.state]; rfl
  have N0 := Fr.nil n0
  have pre0 : ∀ t, Steps p.tables e below (s₁.setTop (mkF m 0 #[.val (.ref a1), .val (.int p2), .unset] [])) t → Steps p.tables e below (s₁.setTop (entryFrame m #[(.ref a1), (.int p2)] 3)) t := fun t k => castTop (ef_1 m a1 p2) k
  subst hp
  have pre1 : ∀ t, Steps p.tables e below (s₁.setTop (mkF m 1 #[.val (.ref a1), .val (.int (4 : Int32)), .unset] [(.ref a1)])) t → Steps p.tables e below (s₁.setTop (entryFrame m #[(.ref a1), (.int (4 : Int32))] 3)) t := by
    intro t kt
    refine pre0 t ?_
    show Steps p.tables e below (s₁.setTop (mkF m 0 #[.val (.ref a1), .val (.int (4 : Int32)), .unset] [])) _
    refine XS.aloadN X0.here hx rfl (hb hby d1_0) rfl rfl ?_
    exact kt
  obtain ⟨T2, X2, e2, st2⟩ := initO X0 hx hZ hown (hw _ (List.mem_of_getElem? (i := 7) rfl)) (hw _ (List.mem_of_getElem? (i := 8) rfl)) (hw _ (List.mem_of_getElem? (i := 9) rfl)) e0 (g := (mkF m 1 #[.val (.ref a1), .val (.int (4 : Int32)), .unset] [(.ref a1)])) rfl (by rw [hml]; rfl) rfl (hb hby d1_1) (by decide) (W := 0) (by show 2 * 0 + _ ≤ _; exact Nat.le_of_eq rfl) (by decide)
  have pre2 : ∀ t, Steps p.tables e below (T2.setTop (mkF m 4 #[.val (.ref a1), .val (.int (4 : Int32)), .unset] [])) t → Steps p.tables e below (s₁.setTop (entryFrame m #[(.ref a1), (.int (4 : Int32))] 3)) t := fun t kt => pre1 t (st2 _ kt)
  have pre3 : ∀ t, Steps p.tables e below (T2.setTop (mkF m 24 #[.val (.ref a1), .val (.int (4 : Int32)), .unset] [(.int (4 : Int32)), (.ref a1)])) t → Steps p.tables e below (s₁.setTop (entryFrame m #[(.ref a1), (.int (4 : Int32))] 3)) t := by
    intro t kt
    refine pre2 t ?_
    show Steps p.tables e below (T2.setTop (mkF m 4 #[.val (.ref a1), .val (.int (4 : Int32)), .unset] [])) _
    refine XS.iloadN X2.here hx rfl (hb hby d1_4) rfl ?_
    show Steps p.tables e below (T2.setTop (mkF m 5 #[.val (.ref a1), .val (.int (4 : Int32)), .unset] [(.int (4 : Int32))])) _
    refine XS.ifYes X2.here hx rfl (pc0 := 5) (pc' := 22) rfl (hb hby d1_5) rfl ((if0 _ _).trans (flt (by decide)).2.1) (by decide) (by decide) ?_
    show Steps p.tables e below (T2.setTop (mkF m 22 #[.val (.ref a1), .val (.int (4 : Int32)), .unset] [])) _
    refine XS.aloadN X2.here hx rfl (hb hby d1_22) rfl rfl ?_
    show Steps p.tables e below (T2.setTop (mkF m 23 #[.val (.ref a1), .val (.int (4 : Int32)), .unset] [(.ref a1)])) _
    refine XS.iloadN X2.here hx rfl (hb hby d1_23) rfl ?_
    exact kt
  obtain ⟨T4, h4, k4, X4, e4, E4, A4, st4⟩ := newP X2 hx hZ (hw _ (List.mem_of_getElem? (i := 0) rfl)) e2 (g := (mkF m 24 #[.val (.ref a1), .val (.int (4 : Int32)), .unset] [(.int (4 : Int32)), (.ref a1)])) rfl (hb hby d1_24) rfl (by decide) (cap := 4) (by decide) (by decide) (by decide) (by decide)
  obtain ⟨b4, g4⟩ : ∃ z, z = h0.size := ⟨_, rfl⟩
  have ne_a1_b4 : a1 ≠ b4 := Nat.ne_of_lt (Nat.lt_of_lt_of_le E_a1.lt (Nat.le_of_eq g4.symm))
  have g_b4 : n0 ≤ b4 := Nat.le_trans Z0 (Nat.le_of_eq g4.symm)
  have sz_b4 : h0.size ≤ b4 := Nat.le_trans (Keep.refl h0 [a1]).1 (Nat.le_of_eq g4.symm)
  rw [← g4] at A4 st4
  have K4 : Keep h0 h4 [a1] := (Keep.refl h0 [a1]).ext E4
  have Z4 : n0 ≤ h4.size := Nat.le_trans Z0 E4.1
  have E_a1_5 := E_a1.ext E4
  have F_parents_a1_6 := F_parents_a1.ext E4
  have F_count_a1_7 := F_count_a1.ext E4
  have V_b4 : Arv Z h4 b4 k4 .int (4 : Int32) [(.int (0 : Int32)), (.int (0 : Int32)), (.int (0 : Int32)), (.int (0 : Int32))] (.int (0 : Int32)) := (Arv.new A4 (by decide)).pad (pad_rep [] (.int (0 : Int32)) 4)
  have pre4 : ∀ t, Steps p.tables e below (T4.setTop (mkF m 26 #[.val (.ref a1), .val (.int (4 : Int32)), .unset] [(.ref b4), (.ref a1)])) t → Steps p.tables e below (s₁.setTop (entryFrame m #[(.ref a1), (.int (4 : Int32))] 3)) t := fun t kt => pre3 t (st4 _ kt)
  obtain ⟨T8, h8, X8, e8, W8, st8⟩ := putF X4 hx hZ hown (host := "") (Or.inl (hw _ (List.mem_of_getElem? (i := 10) rfl))) Via.refl e4 F_parents_a1_6 E_a1_5 (Or.inr ⟨(hw _ (List.mem_of_getElem? (i := 11) rfl)), rfl, hnm⟩) (hw _ (List.mem_of_getElem? (i := 2) rfl)) (ty := (.array .int)) (by decide) rfl rfl (g := (mkF m 26 #[.val (.ref a1), .val (.int (4 : Int32)), .unset] [(.ref b4), (.ref a1)])) rfl rfl (hb hby d1_26)
  have N8 := Fr.snoc X8 N0 ge_a1
  have K8 : Keep h0 h8 [a1] := K4.wr W8 (Or.inl (List.mem_of_getElem? (i := 0) rfl))
  have Z8 : n0 ≤ h8.size := Nat.le_trans Z4 (Keep.of_wr W8).1
  have E_a1_9 := E_a1_5.wr W8
  have F_parents_a1_10 := F_parents_a1_6.same W8
  have F_count_a1_11 := F_count_a1_7.other W8 (Or.inr (slot_ne (Or.inl (hw _ (List.mem_of_getElem? (i := 13) rfl))) (Or.inr (hw _ (List.mem_of_getElem? (i := 11) rfl))) (by decide) (t := .int) (t' := (.array .int)) (by decide) (by decide)))
  have V_b4_12 := V_b4.other W8 (Ne.symm ne_a1_b4)
  have pre8 : ∀ t, Steps p.tables e below (T8.setTop (mkF m 29 #[.val (.ref a1), .val (.int (4 : Int32)), .unset] [])) t → Steps p.tables e below (s₁.setTop (entryFrame m #[(.ref a1), (.int (4 : Int32))] 3)) t := fun t kt => pre4 t (st8 _ kt)
  have pre13 : ∀ t, Steps p.tables e below (T8.setTop (mkF m 37 #[.val (.ref a1), .val (.int (4 : Int32)), .val (.int (0 : Int32))] [(.ref a1)])) t → Steps p.tables e below (s₁.setTop (entryFrame m #[(.ref a1), (.int (4 : Int32))] 3)) t := by
    intro t kt
    refine pre8 t ?_
    show Steps p.tables e below (T8.setTop (mkF m 29 #[.val (.ref a1), .val (.int (4 : Int32)), .unset] [])) _
    refine XS.iconst X8.here hx rfl (hb hby d1_29) ?_
    show Steps p.tables e below (T8.setTop (mkF m 30 #[.val (.ref a1), .val (.int (4 : Int32)), .unset] [(.int (0 : Int32))])) _
    refine XS.istoreN X8.here hx rfl (hb hby d1_30) rfl (l' := #[.val (.ref a1), .val (.int (4 : Int32)), .val (.int (0 : Int32))]) rfl ?_
    show Steps p.tables e below (T8.setTop (mkF m 31 #[.val (.ref a1), .val (.int (4 : Int32)), .val (.int (0 : Int32))] [])) _
    refine XS.iloadN X8.here hx rfl (hb hby d1_31) rfl ?_
    show Steps p.tables e below (T8.setTop (mkF m 32 #[.val (.ref a1), .val (.int (4 : Int32)), .val (.int (0 : Int32))] [(.int (0 : Int32))])) _
    refine XS.iloadN X8.here hx rfl (hb hby d1_32) rfl ?_
    show Steps p.tables e below (T8.setTop (mkF m 33 #[.val (.ref a1), .val (.int (4 : Int32)), .val (.int (0 : Int32))] [(.int (4 : Int32)), (.int (0 : Int32))])) _
    refine XS.icmpNo X8.here hx rfl (hb hby d1_33) rfl (tlt (by decide)).2.1 ?_
    show Steps p.tables e below (T8.setTop (mkF m 36 #[.val (.ref a1), .val (.int (4 : Int32)), .val (.int (0 : Int32))] [])) _
    refine XS.aloadN X8.here hx rfl (hb hby d1_36) rfl rfl ?_
    exact kt
  obtain ⟨T14, X14, e14, st14⟩ := getF X8 hx hZ hown (host := "") (Or.inl (hw _ (List.mem_of_getElem? (i := 10) rfl))) Via.refl e8 F_parents_a1_10 (g := (mkF m 37 #[.val (.ref a1), .val (.int (4 : Int32)), .val (.int (0 : Int32))] [(.ref a1)])) rfl rfl (hb hby d1_37)
  have pre14 : ∀ t, Steps p.tables e below (T14.setTop (mkF m 40 #[.val (.ref a1), .val (.int (4 : Int32)), .val (.int (0 : Int32))] [(.ref b4)])) t → Steps p.tables e below (s₁.setTop (entryFrame m #[(.ref a1), (.int (4 : Int32))] 3)) t := fun t kt => pre13 t (st14 _ kt)
  have pre15 : ∀ t, Steps p.tables e below (T14.setTop (mkF m 42 #[.val (.ref a1), .val (.int (4 : Int32)), .val (.int (0 : Int32))] [(.int (0 : Int32)), (.int (0 : Int32)), (.ref b4)])) t → Steps p.tables e below (s₁.setTop (entryFrame m #[(.ref a1), (.int (4 : Int32))] 3)) t := by
    intro t kt
    refine pre14 t ?_
    show Steps p.tables e below (T14.setTop (mkF m 40 #[.val (.ref a1), .val (.int (4 : Int32)), .val (.int (0 : Int32))] [(.ref b4)])) _
    refine XS.iloadN X14.here hx rfl (hb hby d1_40) rfl ?_
    show Steps p.tables e below (T14.setTop (mkF m 41 #[.val (.ref a1), .val (.int (4 : Int32)), .val (.int (0 : Int32))] [(.int (0 : Int32)), (.ref b4)])) _
    refine XS.iloadN X14.here hx rfl (hb hby d1_41) rfl ?_
    exact kt
  obtain ⟨cl16, Ar16, q16, S16, M16, H16, G16⟩ := (id V_b4_12)
  have hin16 : ¬ ((0 : Int32) < 0 ∨ cl16.slots.size ≤ ((0 : Int32)).toNatClampNeg) := inb_of S16 ⟨by decide, by decide⟩
  obtain ⟨T16, h16, X16, e16, W16, st16⟩ := stI X14 hx hZ e14 Ar16 (j := (0 : Int32)) hin16 (g := (mkF m 42 #[.val (.ref a1), .val (.int (4 : Int32)), .val (.int (0 : Int32))] [(.int (0 : Int32)), (.int (0 : Int32)), (.ref b4)])) rfl rfl (hb hby d1_42)
  have V_b4_16 := Arv.set Ar16 q16 S16 M16 H16 G16 rfl W16 0 rfl (Nat.le_of_ble_eq_true rfl)
  have N16 := Fr.snoc X16 N8 g_b4
  have K16 : Keep h0 h16 [a1] := K8.wr W16 (Or.inr sz_b4)
  have Z16 : n0 ≤ h16.size := Nat.le_trans Z8 (Keep.of_wr W16).1
  have E_a1_17 := E_a1_9.wr W16
  have F_parents_a1_18 := F_parents_a1_10.other W16 (Or.inl ne_a1_b4)
  have F_count_a1_19 := F_count_a1_11.other W16 (Or.inl ne_a1_b4)
  have V_b4_16' : Arv Z h16 b4 k4 .int (4 : Int32) [(.int (0 : Int32)), (.int (0 : Int32)), (.int (0 : Int32)), (.int (0 : Int32))] (.int (0 : Int32)) := V_b4_16
  have pre16 : ∀ t, Steps p.tables e below (T16.setTop (mkF m 43 #[.val (.ref a1), .val (.int (4 : Int32)), .val (.int (0 : Int32))] [])) t → Steps p.tables e below (s₁.setTop (entryFrame m #[(.ref a1), (.int (4 : Int32))] 3)) t := fun t kt => pre15 t (st16 _ kt)
  have pre21 : ∀ t, Steps p.tables e below (T16.setTop (mkF m 37 #[.val (.ref a1), .val (.int (4 : Int32)), .val (.int (1 : Int32))] [(.ref a1)])) t → Steps p.tables e below (s₁.setTop (entryFrame m #[(.ref a1), (.int (4 : Int32))] 3)) t := by
    intro t kt
    refine pre16 t ?_
    show Steps p.tables e below (T16.setTop (mkF m 43 #[.val (.ref a1), .val (.int (4 : Int32)), .val (.int (0 : Int32))] [])) _
    refine XS.iinc X16.here hx rfl (hb hby d1_43) rfl (l' := #[.val (.ref a1), .val (.int (4 : Int32)), .val (.int (1 : Int32))]) rfl ?_
    show Steps p.tables e below (T16.setTop (mkF m 46 #[.val (.ref a1), .val (.int (4 : Int32)), .val (.int (1 : Int32))] [])) _
    refine XS.goto X16.here hx rfl (pc0 := 46) (pc' := 31) rfl (hb hby d1_46) (by decide) (by decide) ?_
    show Steps p.tables e below (T16.setTop (mkF m 31 #[.val (.ref a1), .val (.int (4 : Int32)), .val (.int (1 : Int32))] [])) _
    refine XS.iloadN X16.here hx rfl (hb hby d1_31) rfl ?_
    show Steps p.tables e below (T16.setTop (mkF m 32 #[.val (.ref a1), .val (.int (4 : Int32)), .val (.int (1 : Int32))] [(.int (1 : Int32))])) _
    refine XS.iloadN X16.here hx rfl (hb hby d1_32) rfl ?_
    show Steps p.tables e below (T16.setTop (mkF m 33 #[.val (.ref a1), .val (.int (4 : Int32)), .val (.int (1 : Int32))] [(.int (4 : Int32)), (.int (1 : Int32))])) _
    refine XS.icmpNo X16.here hx rfl (hb hby d1_33) rfl (tlt (by decide)).2.1 ?_
    show Steps p.tables e below (T16.setTop (mkF m 36 #[.val (.ref a1), .val (.int (4 : Int32)), .val (.int (1 : Int32))] [])) _
    refine XS.aloadN X16.here hx rfl (hb hby d1_36) rfl rfl ?_
    exact kt
  obtain ⟨T22, X22, e22, st22⟩ := getF X16 hx hZ hown (host := "") (Or.inl (hw _ (List.mem_of_getElem? (i := 10) rfl))) Via.refl e16 F_parents_a1_18 (g := (mkF m 37 #[.val (.ref a1), .val (.int (4 : Int32)), .val (.int (1 : Int32))] [(.ref a1)])) rfl rfl (hb hby d1_37)
  have pre22 : ∀ t, Steps p.tables e below (T22.setTop (mkF m 40 #[.val (.ref a1), .val (.int (4 : Int32)), .val (.int (1 : Int32))] [(.ref b4)])) t → Steps p.tables e below (s₁.setTop (entryFrame m #[(.ref a1), (.int (4 : Int32))] 3)) t := fun t kt => pre21 t (st22 _ kt)
  have pre23 : ∀ t, Steps p.tables e below (T22.setTop (mkF m 42 #[.val (.ref a1), .val (.int (4 : Int32)), .val (.int (1 : Int32))] [(.int (1 : Int32)), (.int (1 : Int32)), (.ref b4)])) t → Steps p.tables e below (s₁.setTop (entryFrame m #[(.ref a1), (.int (4 : Int32))] 3)) t := by
    intro t kt
    refine pre22 t ?_
    show Steps p.tables e below (T22.setTop (mkF m 40 #[.val (.ref a1), .val (.int (4 : Int32)), .val (.int (1 : Int32))] [(.ref b4)])) _
    refine XS.iloadN X22.here hx rfl (hb hby d1_40) rfl ?_
    show Steps p.tables e below (T22.setTop (mkF m 41 #[.val (.ref a1), .val (.int (4 : Int32)), .val (.int (1 : Int32))] [(.int (1 : Int32)), (.ref b4)])) _
    refine XS.iloadN X22.here hx rfl (hb hby d1_41) rfl ?_
    exact kt
  obtain ⟨cl24, Ar24, q24, S24, M24, H24, G24⟩ := (id V_b4_16')
  have hin24 : ¬ ((1 : Int32) < 0 ∨ cl24.slots.size ≤ ((1 : Int32)).toNatClampNeg) := inb_of S24 ⟨by decide, by decide⟩
  obtain ⟨T24, h24, X24, e24, W24, st24⟩ := stI X22 hx hZ e22 Ar24 (j := (1 : Int32)) hin24 (g := (mkF m 42 #[.val (.ref a1), .val (.int (4 : Int32)), .val (.int (1 : Int32))] [(.int (1 : Int32)), (.int (1 : Int32)), (.ref b4)])) rfl rfl (hb hby d1_42)
  have V_b4_24 := Arv.set Ar24 q24 S24 M24 H24 G24 rfl W24 1 rfl (Nat.le_of_ble_eq_true rfl)
  have N24 := Fr.snoc X24 N16 g_b4
  have K24 : Keep h0 h24 [a1] := K16.wr W24 (Or.inr sz_b4)
  have Z24 : n0 ≤ h24.size := Nat.le_trans Z16 (Keep.of_wr W24).1
  have E_a1_25 := E_a1_17.wr W24
  have F_parents_a1_26 := F_parents_a1_18.other W24 (Or.inl ne_a1_b4)
  have F_count_a1_27 := F_count_a1_19.other W24 (Or.inl ne_a1_b4)
  have V_b4_24' : Arv Z h24 b4 k4 .int (4 : Int32) [(.int (0 : Int32)), (.int (1 : Int32)), (.int (0 : Int32)), (.int (0 : Int32))] (.int (0 : Int32)) := V_b4_24
  have pre24 : ∀ t, Steps p.tables e below (T24.setTop (mkF m 43 #[.val (.ref a1), .val (.int (4 : Int32)), .val (.int (1 : Int32))] [])) t → Steps p.tables e below (s₁.setTop (entryFrame m #[(.ref a1), (.int (4 : Int32))] 3)) t := fun t kt => pre23 t (st24 _ kt)
  have pre29 : ∀ t, Steps p.tables e below (T24.setTop (mkF m 37 #[.val (.ref a1), .val (.int (4 : Int32)), .val (.int (2 : Int32))] [(.ref a1)])) t → Steps p.tables e below (s₁.setTop (entryFrame m #[(.ref a1), (.int (4 : Int32))] 3)) t := by
    intro t kt
    refine pre24 t ?_
    show Steps p.tables e below (T24.setTop (mkF m 43 #[.val (.ref a1), .val (.int (4 : Int32)), .val (.int (1 : Int32))] [])) _
    refine XS.iinc X24.here hx rfl (hb hby d1_43) rfl (l' := #[.val (.ref a1), .val (.int (4 : Int32)), .val (.int (2 : Int32))]) rfl ?_
    show Steps p.tables e below (T24.setTop (mkF m 46 #[.val (.ref a1), .val (.int (4 : Int32)), .val (.int (2 : Int32))] [])) _
    refine XS.goto X24.here hx rfl (pc0 := 46) (pc' := 31) rfl (hb hby d1_46) (by decide) (by decide) ?_
    show Steps p.tables e below (T24.setTop (mkF m 31 #[.val (.ref a1), .val (.int (4 : Int32)), .val (.int (2 : Int32))] [])) _
    refine XS.iloadN X24.here hx rfl (hb hby d1_31) rfl ?_
    show Steps p.tables e below (T24.setTop (mkF m 32 #[.val (.ref a1), .val (.int (4 : Int32)), .val (.int (2 : Int32))] [(.int (2 : Int32))])) _
    refine XS.iloadN X24.here hx rfl (hb hby d1_32) rfl ?_
    show Steps p.tables e below (T24.setTop (mkF m 33 #[.val (.ref a1), .val (.int (4 : Int32)), .val (.int (2 : Int32))] [(.int (4 : Int32)), (.int (2 : Int32))])) _
    refine XS.icmpNo X24.here hx rfl (hb hby d1_33) rfl (tlt (by decide)).2.1 ?_
    show Steps p.tables e below (T24.setTop (mkF m 36 #[.val (.ref a1), .val (.int (4 : Int32)), .val (.int (2 : Int32))] [])) _
    refine XS.aloadN X24.here hx rfl (hb hby d1_36) rfl rfl ?_
    exact kt
  obtain ⟨T30, X30, e30, st30⟩ := getF X24 hx hZ hown (host := "") (Or.inl (hw _ (List.mem_of_getElem? (i := 10) rfl))) Via.refl e24 F_parents_a1_26 (g := (mkF m 37 #[.val (.ref a1), .val (.int (4 : Int32)), .val (.int (2 : Int32))] [(.ref a1)])) rfl rfl (hb hby d1_37)
  have pre30 : ∀ t, Steps p.tables e below (T30.setTop (mkF m 40 #[.val (.ref a1), .val (.int (4 : Int32)), .val (.int (2 : Int32))] [(.ref b4)])) t → Steps p.tables e below (s₁.setTop (entryFrame m #[(.ref a1), (.int (4 : Int32))] 3)) t := fun t kt => pre29 t (st30 _ kt)
  have pre31 : ∀ t, Steps p.tables e below (T30.setTop (mkF m 42 #[.val (.ref a1), .val (.int (4 : Int32)), .val (.int (2 : Int32))] [(.int (2 : Int32)), (.int (2 : Int32)), (.ref b4)])) t → Steps p.tables e below (s₁.setTop (entryFrame m #[(.ref a1), (.int (4 : Int32))] 3)) t := by
    intro t kt
    refine pre30 t ?_
    show Steps p.tables e below (T30.setTop (mkF m 40 #[.val (.ref a1), .val (.int (4 : Int32)), .val (.int (2 : Int32))] [(.ref b4)])) _
    refine XS.iloadN X30.here hx rfl (hb hby d1_40) rfl ?_
    show Steps p.tables e below (T30.setTop (mkF m 41 #[.val (.ref a1), .val (.int (4 : Int32)), .val (.int (2 : Int32))] [(.int (2 : Int32)), (.ref b4)])) _
    refine XS.iloadN X30.here hx rfl (hb hby d1_41) rfl ?_
    exact kt
  obtain ⟨cl32, Ar32, q32, S32, M32, H32, G32⟩ := (id V_b4_24')
  have hin32 : ¬ ((2 : Int32) < 0 ∨ cl32.slots.size ≤ ((2 : Int32)).toNatClampNeg) := inb_of S32 ⟨by decide, by decide⟩
  obtain ⟨T32, h32, X32, e32, W32, st32⟩ := stI X30 hx hZ e30 Ar32 (j := (2 : Int32)) hin32 (g := (mkF m 42 #[.val (.ref a1), .val (.int (4 : Int32)), .val (.int (2 : Int32))] [(.int (2 : Int32)), (.int (2 : Int32)), (.ref b4)])) rfl rfl (hb hby d1_42)
  have V_b4_32 := Arv.set Ar32 q32 S32 M32 H32 G32 rfl W32 2 rfl (Nat.le_of_ble_eq_true rfl)
  have N32 := Fr.snoc X32 N24 g_b4
  have K32 : Keep h0 h32 [a1] := K24.wr W32 (Or.inr sz_b4)
  have Z32 : n0 ≤ h32.size := Nat.le_trans Z24 (Keep.of_wr W32).1
  have E_a1_33 := E_a1_25.wr W32
  have F_parents_a1_34 := F_parents_a1_26.other W32 (Or.inl ne_a1_b4)
  have F_count_a1_35 := F_count_a1_27.other W32 (Or.inl ne_a1_b4)
  have V_b4_32' : Arv Z h32 b4 k4 .int (4 : Int32) [(.int (0 : Int32)), (.int (1 : Int32)), (.int (2 : Int32)), (.int (0 : Int32))] (.int (0 : Int32)) := V_b4_32
  have pre32 : ∀ t, Steps p.tables e below (T32.setTop (mkF m 43 #[.val (.ref a1), .val (.int (4 : Int32)), .val (.int (2 : Int32))] [])) t → Steps p.tables e below (s₁.setTop (entryFrame m #[(.ref a1), (.int (4 : Int32))] 3)) t := fun t kt => pre31 t (st32 _ kt)
  have pre37 : ∀ t, Steps p.tables e below (T32.setTop (mkF m 37 #[.val (.ref a1), .val (.int (4 : Int32)), .val (.int (3 : Int32))] [(.ref a1)])) t → Steps p.tables e below (s₁.setTop (entryFrame m #[(.ref a1), (.int (4 : Int32))] 3)) t := by
    intro t kt
    refine pre32 t ?_
    show Steps p.tables e below (T32.setTop (mkF m 43 #[.val (.ref a1), .val (.int (4 : Int32)), .val (.int (2 : Int32))] [])) _
    refine XS.iinc X32.here hx rfl (hb hby d1_43) rfl (l' := #[.val (.ref a1), .val (.int (4 : Int32)), .val (.int (3 : Int32))]) rfl ?_
    show Steps p.tables e below (T32.setTop (mkF m 46 #[.val (.ref a1), .val (.int (4 : Int32)), .val (.int (3 : Int32))] [])) _
    refine XS.goto X32.here hx rfl (pc0 := 46) (pc' := 31) rfl (hb hby d1_46) (by decide) (by decide) ?_
    show Steps p.tables e below (T32.setTop (mkF m 31 #[.val (.ref a1), .val (.int (4 : Int32)), .val (.int (3 : Int32))] [])) _
    refine XS.iloadN X32.here hx rfl (hb hby d1_31) rfl ?_
    show Steps p.tables e below (T32.setTop (mkF m 32 #[.val (.ref a1), .val (.int (4 : Int32)), .val (.int (3 : Int32))] [(.int (3 : Int32))])) _
    refine XS.iloadN X32.here hx rfl (hb hby d1_32) rfl ?_
    show Steps p.tables e below (T32.setTop (mkF m 33 #[.val (.ref a1), .val (.int (4 : Int32)), .val (.int (3 : Int32))] [(.int (4 : Int32)), (.int (3 : Int32))])) _
    refine XS.icmpNo X32.here hx rfl (hb hby d1_33) rfl (tlt (by decide)).2.1 ?_
    show Steps p.tables e below (T32.setTop (mkF m 36 #[.val (.ref a1), .val (.int (4 : Int32)), .val (.int (3 : Int32))] [])) _
    refine XS.aloadN X32.here hx rfl (hb hby d1_36) rfl rfl ?_
    exact kt
  obtain ⟨T38, X38, e38, st38⟩ := getF X32 hx hZ hown (host := "") (Or.inl (hw _ (List.mem_of_getElem? (i := 10) rfl))) Via.refl e32 F_parents_a1_34 (g := (mkF m 37 #[.val (.ref a1), .val (.int (4 : Int32)), .val (.int (3 : Int32))] [(.ref a1)])) rfl rfl (hb hby d1_37)
  have pre38 : ∀ t, Steps p.tables e below (T38.setTop (mkF m 40 #[.val (.ref a1), .val (.int (4 : Int32)), .val (.int (3 : Int32))] [(.ref b4)])) t → Steps p.tables e below (s₁.setTop (entryFrame m #[(.ref a1), (.int (4 : Int32))] 3)) t := fun t kt => pre37 t (st38 _ kt)
  have pre39 : ∀ t, Steps p.tables e below (T38.setTop (mkF m 42 #[.val (.ref a1), .val (.int (4 : Int32)), .val (.int (3 : Int32))] [(.int (3 : Int32)), (.int (3 : Int32)), (.ref b4)])) t → Steps p.tables e below (s₁.setTop (entryFrame m #[(.ref a1), (.int (4 : Int32))] 3)) t := by
    intro t kt
    refine pre38 t ?_
    show Steps p.tables e below (T38.setTop (mkF m 40 #[.val (.ref a1), .val (.int (4 : Int32)), .val (.int (3 : Int32))] [(.ref b4)])) _
    refine XS.iloadN X38.here hx rfl (hb hby d1_40) rfl ?_
    show Steps p.tables e below (T38.setTop (mkF m 41 #[.val (.ref a1), .val (.int (4 : Int32)), .val (.int (3 : Int32))] [(.int (3 : Int32)), (.ref b4)])) _
    refine XS.iloadN X38.here hx rfl (hb hby d1_41) rfl ?_
    exact kt
  obtain ⟨cl40, Ar40, q40, S40, M40, H40, G40⟩ := (id V_b4_32')
  have hin40 : ¬ ((3 : Int32) < 0 ∨ cl40.slots.size ≤ ((3 : Int32)).toNatClampNeg) := inb_of S40 ⟨by decide, by decide⟩
  obtain ⟨T40, h40, X40, e40, W40, st40⟩ := stI X38 hx hZ e38 Ar40 (j := (3 : Int32)) hin40 (g := (mkF m 42 #[.val (.ref a1), .val (.int (4 : Int32)), .val (.int (3 : Int32))] [(.int (3 : Int32)), (.int (3 : Int32)), (.ref b4)])) rfl rfl (hb hby d1_42)
  have V_b4_40 := Arv.set Ar40 q40 S40 M40 H40 G40 rfl W40 3 rfl (Nat.le_of_ble_eq_true rfl)
  have N40 := Fr.snoc X40 N32 g_b4
  have K40 : Keep h0 h40 [a1] := K32.wr W40 (Or.inr sz_b4)
  have Z40 : n0 ≤ h40.size := Nat.le_trans Z32 (Keep.of_wr W40).1
  have E_a1_41 := E_a1_33.wr W40
  have F_parents_a1_42 := F_parents_a1_34.other W40 (Or.inl ne_a1_b4)
  have F_count_a1_43 := F_count_a1_35.other W40 (Or.inl ne_a1_b4)
  have V_b4_40' : Arv Z h40 b4 k4 .int (4 : Int32) [(.int (0 : Int32)), (.int (1 : Int32)), (.int (2 : Int32)), (.int (3 : Int32))] (.int (0 : Int32)) := V_b4_40
  have pre40 : ∀ t, Steps p.tables e below (T40.setTop (mkF m 43 #[.val (.ref a1), .val (.int (4 : Int32)), .val (.int (3 : Int32))] [])) t → Steps p.tables e below (s₁.setTop (entryFrame m #[(.ref a1), (.int (4 : Int32))] 3)) t := fun t kt => pre39 t (st40 _ kt)
  have pre45 : ∀ t, Steps p.tables e below (T40.setTop (mkF m 51 #[.val (.ref a1), .val (.int (4 : Int32)), .val (.int (4 : Int32))] [(.int (4 : Int32)), (.ref a1)])) t → Steps p.tables e below (s₁.setTop (entryFrame m #[(.ref a1), (.int (4 : Int32))] 3)) t := by
    intro t kt
    refine pre40 t ?_
    show Steps p.tables e below (T40.setTop (mkF m 43 #[.val (.ref a1), .val (.int (4 : Int32)), .val (.int (3 : Int32))] [])) _
    refine XS.iinc X40.here hx rfl (hb hby d1_43) rfl (l' := #[.val (.ref a1), .val (.int (4 : Int32)), .val (.int (4 : Int32))]) rfl ?_
    show Steps p.tables e below (T40.setTop (mkF m 46 #[.val (.ref a1), .val (.int (4 : Int32)), .val (.int (4 : Int32))] [])) _
    refine XS.goto X40.here hx rfl (pc0 := 46) (pc' := 31) rfl (hb hby d1_46) (by decide) (by decide) ?_
    show Steps p.tables e below (T40.setTop (mkF m 31 #[.val (.ref a1), .val (.int (4 : Int32)), .val (.int (4 : Int32))] [])) _
    refine XS.iloadN X40.here hx rfl (hb hby d1_31) rfl ?_
    show Steps p.tables e below (T40.setTop (mkF m 32 #[.val (.ref a1), .val (.int (4 : Int32)), .val (.int (4 : Int32))] [(.int (4 : Int32))])) _
    refine XS.iloadN X40.here hx rfl (hb hby d1_32) rfl ?_
    show Steps p.tables e below (T40.setTop (mkF m 33 #[.val (.ref a1), .val (.int (4 : Int32)), .val (.int (4 : Int32))] [(.int (4 : Int32)), (.int (4 : Int32))])) _
    refine XS.icmpYes X40.here hx rfl (pc0 := 33) (pc' := 49) rfl (hb hby d1_33) rfl (flt (by decide)).2.1 (by decide) (by decide) ?_
    show Steps p.tables e below (T40.setTop (mkF m 49 #[.val (.ref a1), .val (.int (4 : Int32)), .val (.int (4 : Int32))] [])) _
    refine XS.aloadN X40.here hx rfl (hb hby d1_49) rfl rfl ?_
    show Steps p.tables e below (T40.setTop (mkF m 50 #[.val (.ref a1), .val (.int (4 : Int32)), .val (.int (4 : Int32))] [(.ref a1)])) _
    refine XS.iloadN X40.here hx rfl (hb hby d1_50) rfl ?_
    exact kt
  obtain ⟨T46, h46, X46, e46, W46, st46⟩ := putF X40 hx hZ hown (host := "") (Or.inl (hw _ (List.mem_of_getElem? (i := 12) rfl))) Via.refl e40 F_count_a1_43 E_a1_41 (Or.inl (hw _ (List.mem_of_getElem? (i := 13) rfl))) (hw _ (List.mem_of_getElem? (i := 2) rfl)) (ty := .int) (by decide) rfl rfl (g := (mkF m 51 #[.val (.ref a1), .val (.int (4 : Int32)), .val (.int (4 : Int32))] [(.int (4 : Int32)), (.ref a1)])) rfl rfl (hb hby d1_51)
  have N46 := Fr.snoc X46 N40 ge_a1
  have K46 : Keep h0 h46 [a1] := K40.wr W46 (Or.inl (List.mem_of_getElem? (i := 0) rfl))
  have Z46 : n0 ≤ h46.size := Nat.le_trans Z40 (Keep.of_wr W46).1
  have E_a1_47 := E_a1_41.wr W46
  have F_parents_a1_48 := F_parents_a1_42.other W46 (Or.inr (slot_ne (Or.inr (hw _ (List.mem_of_getElem? (i := 11) rfl))) (Or.inl (hw _ (List.mem_of_getElem? (i := 13) rfl))) (by decide) (t := (.array .int)) (t' := .int) (by decide) (by decide)))
  have F_count_a1_49 := F_count_a1_43.same W46
  have V_b4_50 := V_b4_40'.other W46 (Ne.symm ne_a1_b4)
  have pre46 : ∀ t, Steps p.tables e below (T46.setTop (mkF m 54 #[.val (.ref a1), .val (.int (4 : Int32)), .val (.int (4 : Int32))] [])) t → Steps p.tables e below (s₁.setTop (entryFrame m #[(.ref a1), (.int (4 : Int32))] 3)) t := fun t kt => pre45 t (st46 _ kt)
  have VF : Arv Z h46 b4 k4 .int (4 : Int32) (own_l (fun i => i)) (.int (0 : Int32)) := V_b4_50
  obtain ⟨fs, hr, hrun, hended, hW, hsame⟩ := X46.leave (v := none) (fun _ => rfl)
  refine ⟨_, _, pre46 _ ?_, hrun, hended, _, _, rfl, ?_, ⟨_, rfl⟩, hW, hsame.mono (by decide) (by decide)⟩
  · show Steps p.tables e below (T46.setTop (mkF m 54 #[.val (.ref a1), .val (.int (4 : Int32)), .val (.int (4 : Int32))] [])) _
    exact X46.returnOut hx Bd.returns (hb hby d1_54) hr
  · show Qrm1 Z a1 (4 : Int32) h0 n0 _ T46.heap _
    rw [e46]
    exact ⟨b4, k4, rfl, N46, K46, E_a1_47, F_parents_a1_48, VF, F_count_a1_49, g_b4, sz_b4⟩
def Qrm7 (Z : State) (a1 : Addr) (a2 : Addr) (p3 : Int32) (p4 : Int32) (kd : ClassId) (kd2 : ClassId) (w0 : Int32) (lb : Nat → Nat) (i : Nat) (j : Nat) (h0 : Heap) (n0 : Nat) (v : Option Value) (h : Heap) (L : List Loc) : Prop := v = none ∧ Fr n0 L ∧ Keep h0 h [a1, a2] ∧ Arv Z h a1 kd .int (4 : Int32) (own_l (own_lk lb i j)) (.int (0 : Int32)) ∧ Arv Z h a2 kd2 .int (1 : Int32) [(.int (if lb i = lb j then w0 else w0 - 1))] (.int (0 : Int32))
theorem d7_0 : decode method_3_code 0 = .ok (.aload_n 0, 1) := by decide +kernel
theorem d7_1 : decode method_3_code 1 = .ok (.iload_n 2, 1) := by decide +kernel
theorem d7_2 : decode method_3_code 2 = .ok (.iaload, 1) := by decide +kernel
theorem d7_3 : decode method_3_code 3 = .ok (.istore 4, 2) := by decide +kernel
theorem d7_5 : decode method_3_code 5 = .ok (.aload_n 0, 1) := by decide +kernel
theorem d7_6 : decode method_3_code 6 = .ok (.iload_n 3, 1) := by decide +kernel
theorem d7_7 : decode method_3_code 7 = .ok (.iaload, 1) := by decide +kernel
theorem d7_8 : decode method_3_code 8 = .ok (.istore 5, 2) := by decide +kernel
theorem d7_10 : decode method_3_code 10 = .ok (.iload 4, 2) := by decide +kernel
theorem d7_12 : decode method_3_code 12 = .ok (.iload 5, 2) := by decide +kernel
theorem d7_14 : decode method_3_code 14 = .ok (.if_icmp .ne 4, 3) := by decide +kernel
theorem d7_17 : decode method_3_code 17 = .ok (.return_, 1) := by decide +kernel
theorem d7_18 : decode method_3_code 18 = .ok (.iload 4, 2) := by decide +kernel
theorem d7_20 : decode method_3_code 20 = .ok (.iload 5, 2) := by decide +kernel
theorem d7_22 : decode method_3_code 22 = .ok (.invokestatic 30, 3) := by decide +kernel
theorem d7_25 : decode method_3_code 25 = .ok (.istore 6, 2) := by decide +kernel
theorem d7_27 : decode method_3_code 27 = .ok (.iload 4, 2) := by decide +kernel
theorem d7_29 : decode method_3_code 29 = .ok (.iload 5, 2) := by decide +kernel
theorem d7_31 : decode method_3_code 31 = .ok (.invokestatic 36, 3) := by decide +kernel
theorem d7_34 : decode method_3_code 34 = .ok (.istore 7, 2) := by decide +kernel
theorem d7_36 : decode method_3_code 36 = .ok (.aload_n 0, 1) := by decide +kernel
theorem d7_37 : decode method_3_code 37 = .ok (.iconst 0, 1) := by decide +kernel
theorem d7_38 : decode method_3_code 38 = .ok (.iaload, 1) := by decide +kernel
theorem d7_39 : decode method_3_code 39 = .ok (.iload 7, 2) := by decide +kernel
theorem d7_41 : decode method_3_code 41 = .ok (.if_icmp .ne 8, 3) := by decide +kernel
theorem d7_44 : decode method_3_code 44 = .ok (.aload_n 0, 1) := by decide +kernel
theorem d7_45 : decode method_3_code 45 = .ok (.iconst 0, 1) := by decide +kernel
theorem d7_46 : decode method_3_code 46 = .ok (.iload 6, 2) := by decide +kernel
theorem d7_48 : decode method_3_code 48 = .ok (.iastore, 1) := by decide +kernel
theorem d7_49 : decode method_3_code 49 = .ok (.aload_n 0, 1) := by decide +kernel
theorem d7_50 : decode method_3_code 50 = .ok (.iconst 1, 1) := by decide +kernel
theorem d7_51 : decode method_3_code 51 = .ok (.iaload, 1) := by decide +kernel
theorem d7_52 : decode method_3_code 52 = .ok (.iload 7, 2) := by decide +kernel
theorem d7_54 : decode method_3_code 54 = .ok (.if_icmp .ne 8, 3) := by decide +kernel
theorem d7_57 : decode method_3_code 57 = .ok (.aload_n 0, 1) := by decide +kernel
theorem d7_58 : decode method_3_code 58 = .ok (.iconst 1, 1) := by decide +kernel
theorem d7_59 : decode method_3_code 59 = .ok (.iload 6, 2) := by decide +kernel
theorem d7_61 : decode method_3_code 61 = .ok (.iastore, 1) := by decide +kernel
theorem d7_62 : decode method_3_code 62 = .ok (.aload_n 0, 1) := by decide +kernel
theorem d7_63 : decode method_3_code 63 = .ok (.iconst 2, 1) := by decide +kernel
theorem d7_64 : decode method_3_code 64 = .ok (.iaload, 1) := by decide +kernel
theorem d7_65 : decode method_3_code 65 = .ok (.iload 7, 2) := by decide +kernel
theorem d7_67 : decode method_3_code 67 = .ok (.if_icmp .ne 8, 3) := by decide +kernel
theorem d7_70 : decode method_3_code 70 = .ok (.aload_n 0, 1) := by decide +kernel
theorem d7_71 : decode method_3_code 71 = .ok (.iconst 2, 1) := by decide +kernel
theorem d7_72 : decode method_3_code 72 = .ok (.iload 6, 2) := by decide +kernel
theorem d7_74 : decode method_3_code 74 = .ok (.iastore, 1) := by decide +kernel
theorem d7_75 : decode method_3_code 75 = .ok (.aload_n 0, 1) := by decide +kernel
theorem d7_76 : decode method_3_code 76 = .ok (.iconst 3, 1) := by decide +kernel
theorem d7_77 : decode method_3_code 77 = .ok (.iaload, 1) := by decide +kernel
theorem d7_78 : decode method_3_code 78 = .ok (.iload 7, 2) := by decide +kernel
theorem d7_80 : decode method_3_code 80 = .ok (.if_icmp .ne 8, 3) := by decide +kernel
theorem d7_83 : decode method_3_code 83 = .ok (.aload_n 0, 1) := by decide +kernel
theorem d7_84 : decode method_3_code 84 = .ok (.iconst 3, 1) := by decide +kernel
theorem d7_85 : decode method_3_code 85 = .ok (.iload 6, 2) := by decide +kernel
theorem d7_87 : decode method_3_code 87 = .ok (.iastore, 1) := by decide +kernel
theorem d7_88 : decode method_3_code 88 = .ok (.aload_n 1, 1) := by decide +kernel
theorem d7_89 : decode method_3_code 89 = .ok (.iconst 0, 1) := by decide +kernel
theorem d7_90 : decode method_3_code 90 = .ok (.aload_n 1, 1) := by decide +kernel
theorem d7_91 : decode method_3_code 91 = .ok (.iconst 0, 1) := by decide +kernel
theorem d7_92 : decode method_3_code 92 = .ok (.iaload, 1) := by decide +kernel
theorem d7_93 : decode method_3_code 93 = .ok (.iconst 1, 1) := by decide +kernel
theorem d7_94 : decode method_3_code 94 = .ok (.isub, 1) := by decide +kernel
theorem d7_95 : decode method_3_code 95 = .ok (.iastore, 1) := by decide +kernel
theorem d7_96 : decode method_3_code 96 = .ok (.return_, 1) := by decide +kernel
theorem ef_7 (m : MethodId) (x0 : Addr) (x1 : Addr) (x2 : Int32) (x3 : Int32) : entryFrame m #[(.ref x0), (.ref x1), (.int x2), (.int x3)] 8 = mkF m 0 #[.val (.ref x0), .val (.ref x1), .val (.int x2), .val (.int x3), .unset, .unset, .unset, .unset] [] := by first | (simp [entryFrame, mkF, argsToLocals, Value.category]; done) | rfl
set_option maxRecDepth 65536 in
set_option maxHeartbeats 40000000 in
theorem rm7 (l : Launch) (Z : State) (a0 : Array Value) (hw : ∀ d ∈ tables_1, d.before a0 Z = true) (ws : List Jvm.Cond) (a1 : Addr) (a2 : Addr) (p3 : Int32) (p4 : Int32) (kd : ClassId) (kd2 : ClassId) (w0 : Int32) (lb : Nat → Nat) (i : Nat) (j : Nat) (h0 : Heap) (n0 : Nat) (Z0 : n0 ≤ h0.size) (V_a1 : Arv Z h0 a1 kd .int (4 : Int32) [(.int (Int32.ofNat (lb 0))), (.int (Int32.ofNat (lb 1))), (.int (Int32.ofNat (lb 2))), (.int (Int32.ofNat (lb 3)))] (.int (0 : Int32))) (V_a2 : Arv Z h0 a2 kd2 .int (1 : Int32) [(.int w0)] (.int (0 : Int32))) (ge_a1 : n0 ≤ a1) (ge_a2 : n0 ≤ a2) (ne_a1_a2 : a1 ≠ a2) (hl : ∀ k, k < 4 → lb k < 4) (hi : i < 4) (hj : j < 4) (hp : p3 = Int32.ofNat i) (hq : p4 = Int32.ofNat j) :
    MetFree l (⟨"com/example/vertumnus/vertumnus/PartitionsLinkPinLaw", "merge", "([I[III)V"⟩ : MethodName) (head1 (Jvm.Cond.code (⟨"com/example/vertumnus/vertumnus/PartitionsLinkPinLaw", "merge", "([I[III)V"⟩ : MethodName) method_3_code 8 none :: ws) ({ frames := 1, cells := 0, slots := 0, locals := 13 } : Room)) (fun a U => a = #[(.ref a1), (.ref a2), (.int p3), (.int p4)] ∧ Z.Warmed39 U.vm ∧ U.heap = h0) (fun _ _ _ _ _ => True) (fun _ U o U' => ∃ v L, o = .returned v ∧ Qrm7 Z a1 a2 p3 p4 kd kd2 w0 lb i j h0 n0 v U'.heap L ∧ FrameEnd U o U' L ({ frames := 1, cells := 0, slots := 0, locals := 13 } : Room).cells ({ frames := 1, cells := 0, slots := 0, locals := 13 } : Room).slots) := by
  refine MetFree.of_bodySF (plainFor_of_name pn_1) hisR ?_
  intro p e s m args below meth c s₁ Bd hml0 hP hK
  obtain ⟨rfl, hZ, hh⟩ := hP
  have hx := Bd.exec
  have hby := Bd.bytes
  have hml : c.maxLocals = 8 := hml0
  have hown : s.vm.findClass "com/example/vertumnus/vertumnus/PartitionsLinkPinLaw" = some m.cls := findClass_of_methodNamed Bd.named
  have hnm := (name_of_methodNamed Bd.named Bd.method).1
  have X0 : Stand p l e ({ frames := 1, cells := 0, slots := 0, locals := 13 } : Room) s m #[(.ref a1), (.ref a2), (.int p3), (.int p4)] below meth c s₁ [] 0 0 := Stand.of_body Bd
  have e0 : s₁.heap = h0 := by rw [← hh, Bd.state]; rfl
  have N0 := Fr.nil n0
  have pre0 : ∀ t, Steps p.tables e below (s₁.setTop (mkF m 0 #[.val (.ref a1), .val (.ref a2), .val (.int p3), .val (.int p4), .unset, .unset, .unset, .unset] [])) t → Steps p.tables e below (s₁.setTop (entryFrame m #[(.ref a1), (.ref a2), (.int p3), (.int p4)] 8)) t := fun t k => castTop (ef_7 m a1 a2 p3 p4) k
  subst hp hq
  have hri := hl i hi
  have hrj := hl j hj
  have pre3 : ∀ t, Steps p.tables e below (s₁.setTop (mkF m 14 #[.val (.ref a1), .val (.ref a2), .val (.int (Int32.ofNat i)), .val (.int (Int32.ofNat j)), .val (.int (Int32.ofNat (lb i))), .val (.int (Int32.ofNat (lb j))), .unset, .unset] [(.int (Int32.ofNat (lb j))), (.int (Int32.ofNat (lb i)))])) t → Steps p.tables e below (s₁.setTop (entryFrame m #[(.ref a1), (.ref a2), (.int (Int32.ofNat i)), (.int (Int32.ofNat j))] 8)) t := by
    intro t kt
    refine pre0 t ?_
    show Steps p.tables e below (s₁.setTop (mkF m 0 #[.val (.ref a1), .val (.ref a2), .val (.int (Int32.ofNat i)), .val (.int (Int32.ofNat j)), .unset, .unset, .unset, .unset] [])) _
    refine XS.aloadN X0.here hx rfl (hb hby d7_0) rfl rfl ?_
    show Steps p.tables e below (s₁.setTop (mkF m 1 #[.val (.ref a1), .val (.ref a2), .val (.int (Int32.ofNat i)), .val (.int (Int32.ofNat j)), .unset, .unset, .unset, .unset] [(.ref a1)])) _
    refine XS.iloadN X0.here hx rfl (hb hby d7_1) rfl ?_
    show Steps p.tables e below (s₁.setTop (mkF m 2 #[.val (.ref a1), .val (.ref a2), .val (.int (Int32.ofNat i)), .val (.int (Int32.ofNat j)), .unset, .unset, .unset, .unset] [(.int (Int32.ofNat i)), (.ref a1)])) _
    obtain ⟨cl1, Ar1, -, S1, M1, H1, -⟩ := (id V_a1)
    have hin1 : ¬ ((Int32.ofNat i) < 0 ∨ cl1.slots.size ≤ ((Int32.ofNat i)).toNatClampNeg) := inb_of S1 (own_inb hi)
    refine X0.iaload hx (j := (Int32.ofNat i)) (v := (.int (Int32.ofNat (lb i)))) (by rw [e0]; exact Ar1.1) (State.isArrayOf_alike hZ.alike Ar1.2.1) Ar1.2.2 hin1 (H1.at hin1 (own_at lb hi)) (g := (mkF m 2 #[.val (.ref a1), .val (.ref a2), .val (.int (Int32.ofNat i)), .val (.int (Int32.ofNat j)), .unset, .unset, .unset, .unset] [(.int (Int32.ofNat i)), (.ref a1)])) rfl rfl (hb hby d7_2) _ ?_
    show Steps p.tables e below (s₁.setTop (mkF m 3 #[.val (.ref a1), .val (.ref a2), .val (.int (Int32.ofNat i)), .val (.int (Int32.ofNat j)), .unset, .unset, .unset, .unset] [(.int (Int32.ofNat (lb i)))])) _
    refine XS.istore X0.here hx rfl (hb hby d7_3) rfl (l' := #[.val (.ref a1), .val (.ref a2), .val (.int (Int32.ofNat i)), .val (.int (Int32.ofNat j)), .val (.int (Int32.ofNat (lb i))), .unset, .unset, .unset]) rfl ?_
    show Steps p.tables e below (s₁.setTop (mkF m 5 #[.val (.ref a1), .val (.ref a2), .val (.int (Int32.ofNat i)), .val (.int (Int32.ofNat j)), .val (.int (Int32.ofNat (lb i))), .unset, .unset, .unset] [])) _
    refine XS.aloadN X0.here hx rfl (hb hby d7_5) rfl rfl ?_
    show Steps p.tables e below (s₁.setTop (mkF m 6 #[.val (.ref a1), .val (.ref a2), .val (.int (Int32.ofNat i)), .val (.int (Int32.ofNat j)), .val (.int (Int32.ofNat (lb i))), .unset, .unset, .unset] [(.ref a1)])) _
    refine XS.iloadN X0.here hx rfl (hb hby d7_6) rfl ?_
    show Steps p.tables e below (s₁.setTop (mkF m 7 #[.val (.ref a1), .val (.ref a2), .val (.int (Int32.ofNat i)), .val (.int (Int32.ofNat j)), .val (.int (Int32.ofNat (lb i))), .unset, .unset, .unset] [(.int (Int32.ofNat j)), (.ref a1)])) _
    obtain ⟨cl2, Ar2, -, S2, M2, H2, -⟩ := (id V_a1)
    have hin2 : ¬ ((Int32.ofNat j) < 0 ∨ cl2.slots.size ≤ ((Int32.ofNat j)).toNatClampNeg) := inb_of S2 (own_inb hj)
    refine X0.iaload hx (j := (Int32.ofNat j)) (v := (.int (Int32.ofNat (lb j)))) (by rw [e0]; exact Ar2.1) (State.isArrayOf_alike hZ.alike Ar2.2.1) Ar2.2.2 hin2 (H2.at hin2 (own_at lb hj)) (g := (mkF m 7 #[.val (.ref a1), .val (.ref a2), .val (.int (Int32.ofNat i)), .val (.int (Int32.ofNat j)), .val (.int (Int32.ofNat (lb i))), .unset, .unset, .unset] [(.int (Int32.ofNat j)), (.ref a1)])) rfl rfl (hb hby d7_7) _ ?_
    show Steps p.tables e below (s₁.setTop (mkF m 8 #[.val (.ref a1), .val (.ref a2), .val (.int (Int32.ofNat i)), .val (.int (Int32.ofNat j)), .val (.int (Int32.ofNat (lb i))), .unset, .unset, .unset] [(.int (Int32.ofNat (lb j)))])) _
    refine XS.istore X0.here hx rfl (hb hby d7_8) rfl (l' := #[.val (.ref a1), .val (.ref a2), .val (.int (Int32.ofNat i)), .val (.int (Int32.ofNat j)), .val (.int (Int32.ofNat (lb i))), .val (.int (Int32.ofNat (lb j))), .unset, .unset]) rfl ?_
    show Steps p.tables e below (s₁.setTop (mkF m 10 #[.val (.ref a1), .val (.ref a2), .val (.int (Int32.ofNat i)), .val (.int (Int32.ofNat j)), .val (.int (Int32.ofNat (lb i))), .val (.int (Int32.ofNat (lb j))), .unset, .unset] [])) _
    refine XS.iload X0.here hx rfl (hb hby d7_10) rfl ?_
    show Steps p.tables e below (s₁.setTop (mkF m 12 #[.val (.ref a1), .val (.ref a2), .val (.int (Int32.ofNat i)), .val (.int (Int32.ofNat j)), .val (.int (Int32.ofNat (lb i))), .val (.int (Int32.ofNat (lb j))), .unset, .unset] [(.int (Int32.ofNat (lb i)))])) _
    refine XS.iload X0.here hx rfl (hb hby d7_12) rfl ?_
    exact kt
  by_cases hc14 : (Int32.ofNat (lb i)) = (Int32.ofNat (lb j))
  · have pre4 : ∀ t, Steps p.tables e below (s₁.setTop (mkF m 17 #[.val (.ref a1), .val (.ref a2), .val (.int (Int32.ofNat i)), .val (.int (Int32.ofNat j)), .val (.int (Int32.ofNat (lb i))), .val (.int (Int32.ofNat (lb j))), .unset, .unset] [])) t → Steps p.tables e below (s₁.setTop (entryFrame m #[(.ref a1), (.ref a2), (.int (Int32.ofNat i)), (.int (Int32.ofNat j))] 8)) t := by
      intro t kt
      refine pre3 t ?_
      show Steps p.tables e below (s₁.setTop (mkF m 14 #[.val (.ref a1), .val (.ref a2), .val (.int (Int32.ofNat i)), .val (.int (Int32.ofNat j)), .val (.int (Int32.ofNat (lb i))), .val (.int (Int32.ofNat (lb j))), .unset, .unset] [(.int (Int32.ofNat (lb j))), (.int (Int32.ofNat (lb i)))])) _
      refine XS.icmpNo X0.here hx rfl (hb hby d7_14) rfl (teq hc14).2 ?_
      exact kt
    have heq : lb i = lb j := own_inj hri hrj hc14
    have VF : Arv Z h0 a1 kd .int (4 : Int32) (own_l (own_lk lb i j)) (.int (0 : Int32)) := by rw [own_lk_eq heq]; exact V_a1
    have VG : Arv Z h0 a2 kd2 .int (1 : Int32) [.int (if lb i = lb j then w0 else w0 - 1)] (.int (0 : Int32)) := by rw [if_pos heq]; exact V_a2
    obtain ⟨fs, hr, hrun, hended, hW, hsame⟩ := X0.leave (v := none) (fun _ => rfl)
    refine ⟨_, _, pre4 _ ?_, hrun, hended, _, _, rfl, ?_, ⟨_, rfl⟩, hW, hsame.mono (by decide) (by decide)⟩
    · show Steps p.tables e below (s₁.setTop (mkF m 17 #[.val (.ref a1), .val (.ref a2), .val (.int (Int32.ofNat i)), .val (.int (Int32.ofNat j)), .val (.int (Int32.ofNat (lb i))), .val (.int (Int32.ofNat (lb j))), .unset, .unset] [])) _
      exact X0.returnOut hx Bd.returns (hb hby d7_17) hr
    · show Qrm7 Z a1 a2 (Int32.ofNat i) (Int32.ofNat j) kd kd2 w0 lb i j h0 n0 _ s₁.heap _
      rw [e0]
      exact ⟨rfl, N0, (Keep.refl h0 [a1, a2]), VF, VG⟩
  · have pre5 : ∀ t, Steps p.tables e below (s₁.setTop (mkF m 18 #[.val (.ref a1), .val (.ref a2), .val (.int (Int32.ofNat i)), .val (.int (Int32.ofNat j)), .val (.int (Int32.ofNat (lb i))), .val (.int (Int32.ofNat (lb j))), .unset, .unset] [])) t → Steps p.tables e below (s₁.setTop (entryFrame m #[(.ref a1), (.ref a2), (.int (Int32.ofNat i)), (.int (Int32.ofNat j))] 8)) t := by
      intro t kt
      refine pre3 t ?_
      show Steps p.tables e below (s₁.setTop (mkF m 14 #[.val (.ref a1), .val (.ref a2), .val (.int (Int32.ofNat i)), .val (.int (Int32.ofNat j)), .val (.int (Int32.ofNat (lb i))), .val (.int (Int32.ofNat (lb j))), .unset, .unset] [(.int (Int32.ofNat (lb j))), (.int (Int32.ofNat (lb i)))])) _
      refine XS.icmpYes X0.here hx rfl (pc0 := 14) (pc' := 18) rfl (hb hby d7_14) rfl (feq hc14).2 (by decide) (by decide) ?_
      exact kt
    have pre6 : ∀ t, Steps p.tables e below (s₁.setTop (mkF m 22 #[.val (.ref a1), .val (.ref a2), .val (.int (Int32.ofNat i)), .val (.int (Int32.ofNat j)), .val (.int (Int32.ofNat (lb i))), .val (.int (Int32.ofNat (lb j))), .unset, .unset] [(.int (Int32.ofNat (lb j))), (.int (Int32.ofNat (lb i)))])) t → Steps p.tables e below (s₁.setTop (entryFrame m #[(.ref a1), (.ref a2), (.int (Int32.ofNat i)), (.int (Int32.ofNat j))] 8)) t := by
      intro t kt
      refine pre5 t ?_
      show Steps p.tables e below (s₁.setTop (mkF m 18 #[.val (.ref a1), .val (.ref a2), .val (.int (Int32.ofNat i)), .val (.int (Int32.ofNat j)), .val (.int (Int32.ofNat (lb i))), .val (.int (Int32.ofNat (lb j))), .unset, .unset] [])) _
      refine XS.iload X0.here hx rfl (hb hby d7_18) rfl ?_
      show Steps p.tables e below (s₁.setTop (mkF m 20 #[.val (.ref a1), .val (.ref a2), .val (.int (Int32.ofNat i)), .val (.int (Int32.ofNat j)), .val (.int (Int32.ofNat (lb i))), .val (.int (Int32.ofNat (lb j))), .unset, .unset] [(.int (Int32.ofNat (lb i)))])) _
      refine XS.iload X0.here hx rfl (hb hby d7_20) rfl ?_
      exact kt
    obtain ⟨_, _, ⟨T7, L7, k7, n7⟩, -, X7, ⟨Lc7, hQ7, l7, y7, z7⟩, st7⟩ := Jvm.LawKit.callS X0 hx (y := (⟨"java/lang/Math", "min", "(II)I"⟩ : MethodName)) hown (mvT hZ (hw _ (List.mem_of_getElem? (i := 35) rfl))) (mvT hZ (hw _ (List.mem_of_getElem? (i := 29) rfl))) (mvT hZ (hw _ (List.mem_of_getElem? (i := 26) rfl))) (mvT hZ (hw _ (List.mem_of_getElem? (i := 30) rfl))) (by decide) (backOf (W := 0) (rm6 l Z a0 hw [] (Int32.ofNat (lb i)) (Int32.ofNat (lb j)) h0 n0) hZ (hw _ (List.mem_of_getElem? (i := 30) rfl)) (hw _ (List.mem_of_getElem? (i := 26) rfl)) (by decide) (by decide)) (g := (mkF m 22 #[.val (.ref a1), .val (.ref a2), .val (.int (Int32.ofNat i)), .val (.int (Int32.ofNat j)), .val (.int (Int32.ofNat (lb i))), .val (.int (Int32.ofNat (lb j))), .unset, .unset] [(.int (Int32.ofNat (lb j))), (.int (Int32.ofNat (lb i)))])) rfl (by rw [hml]; rfl) (argsL := [(.int (Int32.ofNat (lb i))), (.int (Int32.ofNat (lb j)))]) (rest := []) (lenOf pd_1 rfl) rfl (by show 2 * 0 + _ ≤ _; exact Nat.le_of_eq rfl) (hb hby d7_22) (fun _ _ => ⟨rfl, e0, (by decide : 0 + 0 ≤ _), (by decide : 0 + 0 ≤ _)⟩)
    dsimp only [Pt.U, Pt.locs, Pt.cells, Pt.slots] at X7 l7 y7 z7 st7 hQ7
    subst l7 y7 z7
    obtain ⟨rfl, N7q, e7⟩ := hQ7
    have N7 := Fr.app N0 N7q
    have pre7 : ∀ t, Steps p.tables e below (T7.setTop (mkF m 25 #[.val (.ref a1), .val (.ref a2), .val (.int (Int32.ofNat i)), .val (.int (Int32.ofNat j)), .val (.int (Int32.ofNat (lb i))), .val (.int (Int32.ofNat (lb j))), .unset, .unset] [(.int (own_f6 (Int32.ofNat (lb i)) (Int32.ofNat (lb j))))])) t → Steps p.tables e below (s₁.setTop (entryFrame m #[(.ref a1), (.ref a2), (.int (Int32.ofNat i)), (.int (Int32.ofNat j))] 8)) t := fun t kt => pre6 t (st7 _ kt)
    rw [own_minN hri hrj] at pre7
    have pre8 : ∀ t, Steps p.tables e below (T7.setTop (mkF m 31 #[.val (.ref a1), .val (.ref a2), .val (.int (Int32.ofNat i)), .val (.int (Int32.ofNat j)), .val (.int (Int32.ofNat (lb i))), .val (.int (Int32.ofNat (lb j))), .val (.int (Int32.ofNat (min (lb i) (lb j)))), .unset] [(.int (Int32.ofNat (lb j))), (.int (Int32.ofNat (lb i)))])) t → Steps p.tables e below (s₁.setTop (entryFrame m #[(.ref a1), (.ref a2), (.int (Int32.ofNat i)), (.int (Int32.ofNat j))] 8)) t := by
      intro t kt
      refine pre7 t ?_
      show Steps p.tables e below (T7.setTop (mkF m 25 #[.val (.ref a1), .val (.ref a2), .val (.int (Int32.ofNat i)), .val (.int (Int32.ofNat j)), .val (.int (Int32.ofNat (lb i))), .val (.int (Int32.ofNat (lb j))), .unset, .unset] [(.int (Int32.ofNat (min (lb i) (lb j))))])) _
      refine XS.istore X7.here hx rfl (hb hby d7_25) rfl (l' := #[.val (.ref a1), .val (.ref a2), .val (.int (Int32.ofNat i)), .val (.int (Int32.ofNat j)), .val (.int (Int32.ofNat (lb i))), .val (.int (Int32.ofNat (lb j))), .val (.int (Int32.ofNat (min (lb i) (lb j)))), .unset]) rfl ?_
      show Steps p.tables e below (T7.setTop (mkF m 27 #[.val (.ref a1), .val (.ref a2), .val (.int (Int32.ofNat i)), .val (.int (Int32.ofNat j)), .val (.int (Int32.ofNat (lb i))), .val (.int (Int32.ofNat (lb j))), .val (.int (Int32.ofNat (min (lb i) (lb j)))), .unset] [])) _
      refine XS.iload X7.here hx rfl (hb hby d7_27) rfl ?_
      show Steps p.tables e below (T7.setTop (mkF m 29 #[.val (.ref a1), .val (.ref a2), .val (.int (Int32.ofNat i)), .val (.int (Int32.ofNat j)), .val (.int (Int32.ofNat (lb i))), .val (.int (Int32.ofNat (lb j))), .val (.int (Int32.ofNat (min (lb i) (lb j)))), .unset] [(.int (Int32.ofNat (lb i)))])) _
      refine XS.iload X7.here hx rfl (hb hby d7_29) rfl ?_
      exact kt
    obtain ⟨_, _, ⟨T9, L9, k9, n9⟩, -, X9, ⟨Lc9, hQ9, l9, y9, z9⟩, st9⟩ := Jvm.LawKit.callS X7 hx (y := (⟨"java/lang/Math", "max", "(II)I"⟩ : MethodName)) hown (mvT hZ (hw _ (List.mem_of_getElem? (i := 36) rfl))) (mvT hZ (hw _ (List.mem_of_getElem? (i := 25) rfl))) (mvT hZ (hw _ (List.mem_of_getElem? (i := 26) rfl))) (mvT hZ (hw _ (List.mem_of_getElem? (i := 27) rfl))) (by decide) (backOf (W := 0) (rm5 l Z a0 hw [] (Int32.ofNat (lb i)) (Int32.ofNat (lb j)) h0 n0) hZ (hw _ (List.mem_of_getElem? (i := 27) rfl)) (hw _ (List.mem_of_getElem? (i := 26) rfl)) (by decide) (by decide)) (g := (mkF m 31 #[.val (.ref a1), .val (.ref a2), .val (.int (Int32.ofNat i)), .val (.int (Int32.ofNat j)), .val (.int (Int32.ofNat (lb i))), .val (.int (Int32.ofNat (lb j))), .val (.int (Int32.ofNat (min (lb i) (lb j)))), .unset] [(.int (Int32.ofNat (lb j))), (.int (Int32.ofNat (lb i)))])) rfl (by rw [hml]; rfl) (argsL := [(.int (Int32.ofNat (lb i))), (.int (Int32.ofNat (lb j)))]) (rest := []) (lenOf pd_1 rfl) rfl (by show 2 * 0 + _ ≤ _; exact Nat.le_of_eq rfl) (hb hby d7_31) (fun _ _ => ⟨rfl, e7, (by decide : 0 + 0 ≤ _), (by decide : 0 + 0 ≤ _)⟩)
    dsimp only [Pt.U, Pt.locs, Pt.cells, Pt.slots] at X9 l9 y9 z9 st9 hQ9
    subst l9 y9 z9
    obtain ⟨rfl, N9q, e9⟩ := hQ9
    have N9 := Fr.app N7 N9q
    have pre9 : ∀ t, Steps p.tables e below (T9.setTop (mkF m 34 #[.val (.ref a1), .val (.ref a2), .val (.int (Int32.ofNat i)), .val (.int (Int32.ofNat j)), .val (.int (Int32.ofNat (lb i))), .val (.int (Int32.ofNat (lb j))), .val (.int (Int32.ofNat (min (lb i) (lb j)))), .unset] [(.int (own_f5 (Int32.ofNat (lb i)) (Int32.ofNat (lb j))))])) t → Steps p.tables e below (s₁.setTop (entryFrame m #[(.ref a1), (.ref a2), (.int (Int32.ofNat i)), (.int (Int32.ofNat j))] 8)) t := fun t kt => pre8 t (st9 _ kt)
    rw [own_maxN hri hrj] at pre9
    have pre11 : ∀ t, Steps p.tables e below (T9.setTop (mkF m 41 #[.val (.ref a1), .val (.ref a2), .val (.int (Int32.ofNat i)), .val (.int (Int32.ofNat j)), .val (.int (Int32.ofNat (lb i))), .val (.int (Int32.ofNat (lb j))), .val (.int (Int32.ofNat (min (lb i) (lb j)))), .val (.int (Int32.ofNat (max (lb i) (lb j))))] [(.int (Int32.ofNat (max (lb i) (lb j)))), (.int (Int32.ofNat (lb 0)))])) t → Steps p.tables e below (s₁.setTop (entryFrame m #[(.ref a1), (.ref a2), (.int (Int32.ofNat i)), (.int (Int32.ofNat j))] 8)) t := by
      intro t kt
      refine pre9 t ?_
      show Steps p.tables e below (T9.setTop (mkF m 34 #[.val (.ref a1), .val (.ref a2), .val (.int (Int32.ofNat i)), .val (.int (Int32.ofNat j)), .val (.int (Int32.ofNat (lb i))), .val (.int (Int32.ofNat (lb j))), .val (.int (Int32.ofNat (min (lb i) (lb j)))), .unset] [(.int (Int32.ofNat (max (lb i) (lb j))))])) _
      refine XS.istore X9.here hx rfl (hb hby d7_34) rfl (l' := #[.val (.ref a1), .val (.ref a2), .val (.int (Int32.ofNat i)), .val (.int (Int32.ofNat j)), .val (.int (Int32.ofNat (lb i))), .val (.int (Int32.ofNat (lb j))), .val (.int (Int32.ofNat (min (lb i) (lb j)))), .val (.int (Int32.ofNat (max (lb i) (lb j))))]) rfl ?_
      show Steps p.tables e below (T9.setTop (mkF m 36 #[.val (.ref a1), .val (.ref a2), .val (.int (Int32.ofNat i)), .val (.int (Int32.ofNat j)), .val (.int (Int32.ofNat (lb i))), .val (.int (Int32.ofNat (lb j))), .val (.int (Int32.ofNat (min (lb i) (lb j)))), .val (.int (Int32.ofNat (max (lb i) (lb j))))] [])) _
      refine XS.aloadN X9.here hx rfl (hb hby d7_36) rfl rfl ?_
      show Steps p.tables e below (T9.setTop (mkF m 37 #[.val (.ref a1), .val (.ref a2), .val (.int (Int32.ofNat i)), .val (.int (Int32.ofNat j)), .val (.int (Int32.ofNat (lb i))), .val (.int (Int32.ofNat (lb j))), .val (.int (Int32.ofNat (min (lb i) (lb j)))), .val (.int (Int32.ofNat (max (lb i) (lb j))))] [(.ref a1)])) _
      refine XS.iconst X9.here hx rfl (hb hby d7_37) ?_
      show Steps p.tables e below (T9.setTop (mkF m 38 #[.val (.ref a1), .val (.ref a2), .val (.int (Int32.ofNat i)), .val (.int (Int32.ofNat j)), .val (.int (Int32.ofNat (lb i))), .val (.int (Int32.ofNat (lb j))), .val (.int (Int32.ofNat (min (lb i) (lb j)))), .val (.int (Int32.ofNat (max (lb i) (lb j))))] [(.int (0 : Int32)), (.ref a1)])) _
      obtain ⟨cl10, Ar10, -, S10, M10, H10, -⟩ := (id V_a1)
      have hin10 : ¬ ((0 : Int32) < 0 ∨ cl10.slots.size ≤ ((0 : Int32)).toNatClampNeg) := inb_of S10 ⟨by decide, by decide⟩
      refine X9.iaload hx (j := (0 : Int32)) (v := (.int (Int32.ofNat (lb 0)))) (by rw [e9]; exact Ar10.1) (State.isArrayOf_alike hZ.alike Ar10.2.1) Ar10.2.2 hin10 (H10.at hin10 rfl) (g := (mkF m 38 #[.val (.ref a1), .val (.ref a2), .val (.int (Int32.ofNat i)), .val (.int (Int32.ofNat j)), .val (.int (Int32.ofNat (lb i))), .val (.int (Int32.ofNat (lb j))), .val (.int (Int32.ofNat (min (lb i) (lb j)))), .val (.int (Int32.ofNat (max (lb i) (lb j))))] [(.int (0 : Int32)), (.ref a1)])) rfl rfl (hb hby d7_38) _ ?_
      show Steps p.tables e below (T9.setTop (mkF m 39 #[.val (.ref a1), .val (.ref a2), .val (.int (Int32.ofNat i)), .val (.int (Int32.ofNat j)), .val (.int (Int32.ofNat (lb i))), .val (.int (Int32.ofNat (lb j))), .val (.int (Int32.ofNat (min (lb i) (lb j)))), .val (.int (Int32.ofNat (max (lb i) (lb j))))] [(.int (Int32.ofNat (lb 0)))])) _
      refine XS.iload X9.here hx rfl (hb hby d7_39) rfl ?_
      exact kt
    obtain ⟨T12, h12, L12, X12, e12, N12, K12, Z12, V_a1_12, V_a2_12, pre12⟩ : ∃ (T' : State) (h' : Heap) (L' : List Loc), Stand p l e ({ frames := 1, cells := 0, slots := 0, locals := 13 } : Room) s m #[(.ref a1), (.ref a2), (.int (Int32.ofNat i)), (.int (Int32.ofNat j))] below meth c T' L' 0 0 ∧ T'.heap = h' ∧ Fr n0 L' ∧ Keep h0 h' [a1, a2] ∧ n0 ≤ h'.size ∧ Arv Z h' a1 kd .int (4 : Int32) [(.int (if (Int32.ofNat (lb 0)) = (Int32.ofNat (max (lb i) (lb j))) then (Int32.ofNat (min (lb i) (lb j))) else (Int32.ofNat (lb 0)))), (.int (Int32.ofNat (lb 1))), (.int (Int32.ofNat (lb 2))), (.int (Int32.ofNat (lb 3)))] (.int (0 : Int32)) ∧ Arv Z h' a2 kd2 .int (1 : Int32) [(.int w0)] (.int (0 : Int32)) ∧ ∀ t, Steps p.tables e below (T'.setTop (mkF m 49 #[.val (.ref a1), .val (.ref a2), .val (.int (Int32.ofNat i)), .val (.int (Int32.ofNat j)), .val (.int (Int32.ofNat (lb i))), .val (.int (Int32.ofNat (lb j))), .val (.int (Int32.ofNat (min (lb i) (lb j)))), .val (.int (Int32.ofNat (max (lb i) (lb j))))] [])) t → Steps p.tables e below (s₁.setTop (entryFrame m #[(.ref a1), (.ref a2), (.int (Int32.ofNat i)), (.int (Int32.ofNat j))] 8)) t := by
      by_cases hc41 : (Int32.ofNat (lb 0)) = (Int32.ofNat (max (lb i) (lb j)))
      · skip
        have pre13 : ∀ t, Steps p.tables e below (T9.setTop (mkF m 44 #[.val (.ref a1), .val (.ref a2), .val (.int (Int32.ofNat i)), .val (.int (Int32.ofNat j)), .val (.int (Int32.ofNat (lb i))), .val (.int (Int32.ofNat (lb j))), .val (.int (Int32.ofNat (min (lb i) (lb j)))), .val (.int (Int32.ofNat (max (lb i) (lb j))))] [])) t → Steps p.tables e below (s₁.setTop (entryFrame m #[(.ref a1), (.ref a2), (.int (Int32.ofNat i)), (.int (Int32.ofNat j))] 8)) t := by
          intro t kt
          refine pre11 t ?_
          show Steps p.tables e below (T9.setTop (mkF m 41 #[.val (.ref a1), .val (.ref a2), .val (.int (Int32.ofNat i)), .val (.int (Int32.ofNat j)), .val (.int (Int32.ofNat (lb i))), .val (.int (Int32.ofNat (lb j))), .val (.int (Int32.ofNat (min (lb i) (lb j)))), .val (.int (Int32.ofNat (max (lb i) (lb j))))] [(.int (Int32.ofNat (max (lb i) (lb j)))), (.int (Int32.ofNat (lb 0)))])) _
          refine XS.icmpNo X9.here hx rfl (hb hby d7_41) rfl (teq hc41).2 ?_
          exact kt
        have pre14 : ∀ t, Steps p.tables e below (T9.setTop (mkF m 48 #[.val (.ref a1), .val (.ref a2), .val (.int (Int32.ofNat i)), .val (.int (Int32.ofNat j)), .val (.int (Int32.ofNat (lb i))), .val (.int (Int32.ofNat (lb j))), .val (.int (Int32.ofNat (min (lb i) (lb j)))), .val (.int (Int32.ofNat (max (lb i) (lb j))))] [(.int (Int32.ofNat (min (lb i) (lb j)))), (.int (0 : Int32)), (.ref a1)])) t → Steps p.tables e below (s₁.setTop (entryFrame m #[(.ref a1), (.ref a2), (.int (Int32.ofNat i)), (.int (Int32.ofNat j))] 8)) t := by
          intro t kt
          refine pre13 t ?_
          show Steps p.tables e below (T9.setTop (mkF m 44 #[.val (.ref a1), .val (.ref a2), .val (.int (Int32.ofNat i)), .val (.int (Int32.ofNat j)), .val (.int (Int32.ofNat (lb i))), .val (.int (Int32.ofNat (lb j))), .val (.int (Int32.ofNat (min (lb i) (lb j)))), .val (.int (Int32.ofNat (max (lb i) (lb j))))] [])) _
          refine XS.aloadN X9.here hx rfl (hb hby d7_44) rfl rfl ?_
          show Steps p.tables e below (T9.setTop (mkF m 45 #[.val (.ref a1), .val (.ref a2), .val (.int (Int32.ofNat i)), .val (.int (Int32.ofNat j)), .val (.int (Int32.ofNat (lb i))), .val (.int (Int32.ofNat (lb j))), .val (.int (Int32.ofNat (min (lb i) (lb j)))), .val (.int (Int32.ofNat (max (lb i) (lb j))))] [(.ref a1)])) _
          refine XS.iconst X9.here hx rfl (hb hby d7_45) ?_
          show Steps p.tables e below (T9.setTop (mkF m 46 #[.val (.ref a1), .val (.ref a2), .val (.int (Int32.ofNat i)), .val (.int (Int32.ofNat j)), .val (.int (Int32.ofNat (lb i))), .val (.int (Int32.ofNat (lb j))), .val (.int (Int32.ofNat (min (lb i) (lb j)))), .val (.int (Int32.ofNat (max (lb i) (lb j))))] [(.int (0 : Int32)), (.ref a1)])) _
          refine XS.iload X9.here hx rfl (hb hby d7_46) rfl ?_
          exact kt
        obtain ⟨cl15, Ar15, q15, S15, M15, H15, G15⟩ := (id V_a1)
        have hin15 : ¬ ((0 : Int32) < 0 ∨ cl15.slots.size ≤ ((0 : Int32)).toNatClampNeg) := inb_of S15 ⟨by decide, by decide⟩
        obtain ⟨T15, h15, X15, e15, W15, st15⟩ := stI X9 hx hZ e9 Ar15 (j := (0 : Int32)) hin15 (g := (mkF m 48 #[.val (.ref a1), .val (.ref a2), .val (.int (Int32.ofNat i)), .val (.int (Int32.ofNat j)), .val (.int (Int32.ofNat (lb i))), .val (.int (Int32.ofNat (lb j))), .val (.int (Int32.ofNat (min (lb i) (lb j)))), .val (.int (Int32.ofNat (max (lb i) (lb j))))] [(.int (Int32.ofNat (min (lb i) (lb j)))), (.int (0 : Int32)), (.ref a1)])) rfl rfl (hb hby d7_48)
        have V_a1_15 := Arv.set Ar15 q15 S15 M15 H15 G15 rfl W15 0 rfl (Nat.le_of_ble_eq_true rfl)
        have N15 := Fr.snoc X15 N9 ge_a1
        have K15 : Keep h0 h15 [a1, a2] := (Keep.refl h0 [a1, a2]).wr W15 (Or.inl (List.mem_of_getElem? (i := 0) rfl))
        have Z15 : n0 ≤ h15.size := Nat.le_trans Z0 (Keep.of_wr W15).1
        have V_a2_17 := V_a2.other W15 (Ne.symm ne_a1_a2)
        have V_a1_15' : Arv Z h15 a1 kd .int (4 : Int32) [(.int (Int32.ofNat (min (lb i) (lb j)))), (.int (Int32.ofNat (lb 1))), (.int (Int32.ofNat (lb 2))), (.int (Int32.ofNat (lb 3)))] (.int (0 : Int32)) := V_a1_15
        have pre15 : ∀ t, Steps p.tables e below (T15.setTop (mkF m 49 #[.val (.ref a1), .val (.ref a2), .val (.int (Int32.ofNat i)), .val (.int (Int32.ofNat j)), .val (.int (Int32.ofNat (lb i))), .val (.int (Int32.ofNat (lb j))), .val (.int (Int32.ofNat (min (lb i) (lb j)))), .val (.int (Int32.ofNat (max (lb i) (lb j))))] [])) t → Steps p.tables e below (s₁.setTop (entryFrame m #[(.ref a1), (.ref a2), (.int (Int32.ofNat i)), (.int (Int32.ofNat j))] 8)) t := fun t kt => pre14 t (st15 _ kt)
        exact ⟨_, _, _, X15, e15, N15, K15, Z15, (by (try simp only [if_pos hc41]); exact V_a1_15'), V_a2_17, (by (try simp only [if_pos hc41]); exact pre15)⟩
      · skip
        have pre18 : ∀ t, Steps p.tables e below (T9.setTop (mkF m 49 #[.val (.ref a1), .val (.ref a2), .val (.int (Int32.ofNat i)), .val (.int (Int32.ofNat j)), .val (.int (Int32.ofNat (lb i))), .val (.int (Int32.ofNat (lb j))), .val (.int (Int32.ofNat (min (lb i) (lb j)))), .val (.int (Int32.ofNat (max (lb i) (lb j))))] [])) t → Steps p.tables e below (s₁.setTop (entryFrame m #[(.ref a1), (.ref a2), (.int (Int32.ofNat i)), (.int (Int32.ofNat j))] 8)) t := by
          intro t kt
          refine pre11 t ?_
          show Steps p.tables e below (T9.setTop (mkF m 41 #[.val (.ref a1), .val (.ref a2), .val (.int (Int32.ofNat i)), .val (.int (Int32.ofNat j)), .val (.int (Int32.ofNat (lb i))), .val (.int (Int32.ofNat (lb j))), .val (.int (Int32.ofNat (min (lb i) (lb j)))), .val (.int (Int32.ofNat (max (lb i) (lb j))))] [(.int (Int32.ofNat (max (lb i) (lb j)))), (.int (Int32.ofNat (lb 0)))])) _
          refine XS.icmpYes X9.here hx rfl (pc0 := 41) (pc' := 49) rfl (hb hby d7_41) rfl (feq hc41).2 (by decide) (by decide) ?_
          exact kt
        exact ⟨_, _, _, X9, e9, N9, (Keep.refl h0 [a1, a2]), Z0, (by (try simp only [if_neg hc41]); exact V_a1), V_a2, (by (try simp only [if_neg hc41]); exact pre18)⟩
    have pre20 : ∀ t, Steps p.tables e below (T12.setTop (mkF m 54 #[.val (.ref a1), .val (.ref a2), .val (.int (Int32.ofNat i)), .val (.int (Int32.ofNat j)), .val (.int (Int32.ofNat (lb i))), .val (.int (Int32.ofNat (lb j))), .val (.int (Int32.ofNat (min (lb i) (lb j)))), .val (.int (Int32.ofNat (max (lb i) (lb j))))] [(.int (Int32.ofNat (max (lb i) (lb j)))), (.int (Int32.ofNat (lb 1)))])) t → Steps p.tables e below (s₁.setTop (entryFrame m #[(.ref a1), (.ref a2), (.int (Int32.ofNat i)), (.int (Int32.ofNat j))] 8)) t := by
      intro t kt
      refine pre12 t ?_
      show Steps p.tables e below (T12.setTop (mkF m 49 #[.val (.ref a1), .val (.ref a2), .val (.int (Int32.ofNat i)), .val (.int (Int32.ofNat j)), .val (.int (Int32.ofNat (lb i))), .val (.int (Int32.ofNat (lb j))), .val (.int (Int32.ofNat (min (lb i) (lb j)))), .val (.int (Int32.ofNat (max (lb i) (lb j))))] [])) _
      refine XS.aloadN X12.here hx rfl (hb hby d7_49) rfl rfl ?_
      show Steps p.tables e below (T12.setTop (mkF m 50 #[.val (.ref a1), .val (.ref a2), .val (.int (Int32.ofNat i)), .val (.int (Int32.ofNat j)), .val (.int (Int32.ofNat (lb i))), .val (.int (Int32.ofNat (lb j))), .val (.int (Int32.ofNat (min (lb i) (lb j)))), .val (.int (Int32.ofNat (max (lb i) (lb j))))] [(.ref a1)])) _
      refine XS.iconst X12.here hx rfl (hb hby d7_50) ?_
      show Steps p.tables e below (T12.setTop (mkF m 51 #[.val (.ref a1), .val (.ref a2), .val (.int (Int32.ofNat i)), .val (.int (Int32.ofNat j)), .val (.int (Int32.ofNat (lb i))), .val (.int (Int32.ofNat (lb j))), .val (.int (Int32.ofNat (min (lb i) (lb j)))), .val (.int (Int32.ofNat (max (lb i) (lb j))))] [(.int (1 : Int32)), (.ref a1)])) _
      obtain ⟨cl19, Ar19, -, S19, M19, H19, -⟩ := (id V_a1_12)
      have hin19 : ¬ ((1 : Int32) < 0 ∨ cl19.slots.size ≤ ((1 : Int32)).toNatClampNeg) := inb_of S19 ⟨by decide, by decide⟩
      refine X12.iaload hx (j := (1 : Int32)) (v := (.int (Int32.ofNat (lb 1)))) (by rw [e12]; exact Ar19.1) (State.isArrayOf_alike hZ.alike Ar19.2.1) Ar19.2.2 hin19 (H19.at hin19 rfl) (g := (mkF m 51 #[.val (.ref a1), .val (.ref a2), .val (.int (Int32.ofNat i)), .val (.int (Int32.ofNat j)), .val (.int (Int32.ofNat (lb i))), .val (.int (Int32.ofNat (lb j))), .val (.int (Int32.ofNat (min (lb i) (lb j)))), .val (.int (Int32.ofNat (max (lb i) (lb j))))] [(.int (1 : Int32)), (.ref a1)])) rfl rfl (hb hby d7_51) _ ?_
      show Steps p.tables e below (T12.setTop (mkF m 52 #[.val (.ref a1), .val (.ref a2), .val (.int (Int32.ofNat i)), .val (.int (Int32.ofNat j)), .val (.int (Int32.ofNat (lb i))), .val (.int (Int32.ofNat (lb j))), .val (.int (Int32.ofNat (min (lb i) (lb j)))), .val (.int (Int32.ofNat (max (lb i) (lb j))))] [(.int (Int32.ofNat (lb 1)))])) _
      refine XS.iload X12.here hx rfl (hb hby d7_52) rfl ?_
      exact kt
    obtain ⟨T21, h21, L21, X21, e21, N21, K21, Z21, V_a1_21, V_a2_21, pre21⟩ : ∃ (T' : State) (h' : Heap) (L' : List Loc), Stand p l e ({ frames := 1, cells := 0, slots := 0, locals := 13 } : Room) s m #[(.ref a1), (.ref a2), (.int (Int32.ofNat i)), (.int (Int32.ofNat j))] below meth c T' L' 0 0 ∧ T'.heap = h' ∧ Fr n0 L' ∧ Keep h0 h' [a1, a2] ∧ n0 ≤ h'.size ∧ Arv Z h' a1 kd .int (4 : Int32) [(.int (if (Int32.ofNat (lb 0)) = (Int32.ofNat (max (lb i) (lb j))) then (Int32.ofNat (min (lb i) (lb j))) else (Int32.ofNat (lb 0)))), (.int (if (Int32.ofNat (lb 1)) = (Int32.ofNat (max (lb i) (lb j))) then (Int32.ofNat (min (lb i) (lb j))) else (Int32.ofNat (lb 1)))), (.int (Int32.ofNat (lb 2))), (.int (Int32.ofNat (lb 3)))] (.int (0 : Int32)) ∧ Arv Z h' a2 kd2 .int (1 : Int32) [(.int w0)] (.int (0 : Int32)) ∧ ∀ t, Steps p.tables e below (T'.setTop (mkF m 62 #[.val (.ref a1), .val (.ref a2), .val (.int (Int32.ofNat i)), .val (.int (Int32.ofNat j)), .val (.int (Int32.ofNat (lb i))), .val (.int (Int32.ofNat (lb j))), .val (.int (Int32.ofNat (min (lb i) (lb j)))), .val (.int (Int32.ofNat (max (lb i) (lb j))))] [])) t → Steps p.tables e below (s₁.setTop (entryFrame m #[(.ref a1), (.ref a2), (.int (Int32.ofNat i)), (.int (Int32.ofNat j))] 8)) t := by
      by_cases hc54 : (Int32.ofNat (lb 1)) = (Int32.ofNat (max (lb i) (lb j)))
      · skip
        have pre22 : ∀ t, Steps p.tables e below (T12.setTop (mkF m 57 #[.val (.ref a1), .val (.ref a2), .val (.int (Int32.ofNat i)), .val (.int (Int32.ofNat j)), .val (.int (Int32.ofNat (lb i))), .val (.int (Int32.ofNat (lb j))), .val (.int (Int32.ofNat (min (lb i) (lb j)))), .val (.int (Int32.ofNat (max (lb i) (lb j))))] [])) t → Steps p.tables e below (s₁.setTop (entryFrame m #[(.ref a1), (.ref a2), (.int (Int32.ofNat i)), (.int (Int32.ofNat j))] 8)) t := by
          intro t kt
          refine pre20 t ?_
          show Steps p.tables e below (T12.setTop (mkF m 54 #[.val (.ref a1), .val (.ref a2), .val (.int (Int32.ofNat i)), .val (.int (Int32.ofNat j)), .val (.int (Int32.ofNat (lb i))), .val (.int (Int32.ofNat (lb j))), .val (.int (Int32.ofNat (min (lb i) (lb j)))), .val (.int (Int32.ofNat (max (lb i) (lb j))))] [(.int (Int32.ofNat (max (lb i) (lb j)))), (.int (Int32.ofNat (lb 1)))])) _
          refine XS.icmpNo X12.here hx rfl (hb hby d7_54) rfl (teq hc54).2 ?_
          exact kt
        have pre23 : ∀ t, Steps p.tables e below (T12.setTop (mkF m 61 #[.val (.ref a1), .val (.ref a2), .val (.int (Int32.ofNat i)), .val (.int (Int32.ofNat j)), .val (.int (Int32.ofNat (lb i))), .val (.int (Int32.ofNat (lb j))), .val (.int (Int32.ofNat (min (lb i) (lb j)))), .val (.int (Int32.ofNat (max (lb i) (lb j))))] [(.int (Int32.ofNat (min (lb i) (lb j)))), (.int (1 : Int32)), (.ref a1)])) t → Steps p.tables e below (s₁.setTop (entryFrame m #[(.ref a1), (.ref a2), (.int (Int32.ofNat i)), (.int (Int32.ofNat j))] 8)) t := by
          intro t kt
          refine pre22 t ?_
          show Steps p.tables e below (T12.setTop (mkF m 57 #[.val (.ref a1), .val (.ref a2), .val (.int (Int32.ofNat i)), .val (.int (Int32.ofNat j)), .val (.int (Int32.ofNat (lb i))), .val (.int (Int32.ofNat (lb j))), .val (.int (Int32.ofNat (min (lb i) (lb j)))), .val (.int (Int32.ofNat (max (lb i) (lb j))))] [])) _
          refine XS.aloadN X12.here hx rfl (hb hby d7_57) rfl rfl ?_
          show Steps p.tables e below (T12.setTop (mkF m 58 #[.val (.ref a1), .val (.ref a2), .val (.int (Int32.ofNat i)), .val (.int (Int32.ofNat j)), .val (.int (Int32.ofNat (lb i))), .val (.int (Int32.ofNat (lb j))), .val (.int (Int32.ofNat (min (lb i) (lb j)))), .val (.int (Int32.ofNat (max (lb i) (lb j))))] [(.ref a1)])) _
          refine XS.iconst X12.here hx rfl (hb hby d7_58) ?_
          show Steps p.tables e below (T12.setTop (mkF m 59 #[.val (.ref a1), .val (.ref a2), .val (.int (Int32.ofNat i)), .val (.int (Int32.ofNat j)), .val (.int (Int32.ofNat (lb i))), .val (.int (Int32.ofNat (lb j))), .val (.int (Int32.ofNat (min (lb i) (lb j)))), .val (.int (Int32.ofNat (max (lb i) (lb j))))] [(.int (1 : Int32)), (.ref a1)])) _
          refine XS.iload X12.here hx rfl (hb hby d7_59) rfl ?_
          exact kt
        obtain ⟨cl24, Ar24, q24, S24, M24, H24, G24⟩ := (id V_a1_12)
        have hin24 : ¬ ((1 : Int32) < 0 ∨ cl24.slots.size ≤ ((1 : Int32)).toNatClampNeg) := inb_of S24 ⟨by decide, by decide⟩
        obtain ⟨T24, h24, X24, e24, W24, st24⟩ := stI X12 hx hZ e12 Ar24 (j := (1 : Int32)) hin24 (g := (mkF m 61 #[.val (.ref a1), .val (.ref a2), .val (.int (Int32.ofNat i)), .val (.int (Int32.ofNat j)), .val (.int (Int32.ofNat (lb i))), .val (.int (Int32.ofNat (lb j))), .val (.int (Int32.ofNat (min (lb i) (lb j)))), .val (.int (Int32.ofNat (max (lb i) (lb j))))] [(.int (Int32.ofNat (min (lb i) (lb j)))), (.int (1 : Int32)), (.ref a1)])) rfl rfl (hb hby d7_61)
        have V_a1_24 := Arv.set Ar24 q24 S24 M24 H24 G24 rfl W24 1 rfl (Nat.le_of_ble_eq_true rfl)
        have N24 := Fr.snoc X24 N12 ge_a1
        have K24 : Keep h0 h24 [a1, a2] := K12.wr W24 (Or.inl (List.mem_of_getElem? (i := 0) rfl))
        have Z24 : n0 ≤ h24.size := Nat.le_trans Z12 (Keep.of_wr W24).1
        have V_a2_26 := V_a2_12.other W24 (Ne.symm ne_a1_a2)
        have V_a1_24' : Arv Z h24 a1 kd .int (4 : Int32) [(.int (if (Int32.ofNat (lb 0)) = (Int32.ofNat (max (lb i) (lb j))) then (Int32.ofNat (min (lb i) (lb j))) else (Int32.ofNat (lb 0)))), (.int (Int32.ofNat (min (lb i) (lb j)))), (.int (Int32.ofNat (lb 2))), (.int (Int32.ofNat (lb 3)))] (.int (0 : Int32)) := V_a1_24
        have pre24 : ∀ t, Steps p.tables e below (T24.setTop (mkF m 62 #[.val (.ref a1), .val (.ref a2), .val (.int (Int32.ofNat i)), .val (.int (Int32.ofNat j)), .val (.int (Int32.ofNat (lb i))), .val (.int (Int32.ofNat (lb j))), .val (.int (Int32.ofNat (min (lb i) (lb j)))), .val (.int (Int32.ofNat (max (lb i) (lb j))))] [])) t → Steps p.tables e below (s₁.setTop (entryFrame m #[(.ref a1), (.ref a2), (.int (Int32.ofNat i)), (.int (Int32.ofNat j))] 8)) t := fun t kt => pre23 t (st24 _ kt)
        exact ⟨_, _, _, X24, e24, N24, K24, Z24, (by (try simp only [if_pos hc54]); exact V_a1_24'), V_a2_26, (by (try simp only [if_pos hc54]); exact pre24)⟩
      · skip
        have pre27 : ∀ t, Steps p.tables e below (T12.setTop (mkF m 62 #[.val (.ref a1), .val (.ref a2), .val (.int (Int32.ofNat i)), .val (.int (Int32.ofNat j)), .val (.int (Int32.ofNat (lb i))), .val (.int (Int32.ofNat (lb j))), .val (.int (Int32.ofNat (min (lb i) (lb j)))), .val (.int (Int32.ofNat (max (lb i) (lb j))))] [])) t → Steps p.tables e below (s₁.setTop (entryFrame m #[(.ref a1), (.ref a2), (.int (Int32.ofNat i)), (.int (Int32.ofNat j))] 8)) t := by
          intro t kt
          refine pre20 t ?_
          show Steps p.tables e below (T12.setTop (mkF m 54 #[.val (.ref a1), .val (.ref a2), .val (.int (Int32.ofNat i)), .val (.int (Int32.ofNat j)), .val (.int (Int32.ofNat (lb i))), .val (.int (Int32.ofNat (lb j))), .val (.int (Int32.ofNat (min (lb i) (lb j)))), .val (.int (Int32.ofNat (max (lb i) (lb j))))] [(.int (Int32.ofNat (max (lb i) (lb j)))), (.int (Int32.ofNat (lb 1)))])) _
          refine XS.icmpYes X12.here hx rfl (pc0 := 54) (pc' := 62) rfl (hb hby d7_54) rfl (feq hc54).2 (by decide) (by decide) ?_
          exact kt
        exact ⟨_, _, _, X12, e12, N12, K12, Z12, (by (try simp only [if_neg hc54]); exact V_a1_12), V_a2_12, (by (try simp only [if_neg hc54]); exact pre27)⟩
    have pre29 : ∀ t, Steps p.tables e below (T21.setTop (mkF m 67 #[.val (.ref a1), .val (.ref a2), .val (.int (Int32.ofNat i)), .val (.int (Int32.ofNat j)), .val (.int (Int32.ofNat (lb i))), .val (.int (Int32.ofNat (lb j))), .val (.int (Int32.ofNat (min (lb i) (lb j)))), .val (.int (Int32.ofNat (max (lb i) (lb j))))] [(.int (Int32.ofNat (max (lb i) (lb j)))), (.int (Int32.ofNat (lb 2)))])) t → Steps p.tables e below (s₁.setTop (entryFrame m #[(.ref a1), (.ref a2), (.int (Int32.ofNat i)), (.int (Int32.ofNat j))] 8)) t := by
      intro t kt
      refine pre21 t ?_
      show Steps p.tables e below (T21.setTop (mkF m 62 #[.val (.ref a1), .val (.ref a2), .val (.int (Int32.ofNat i)), .val (.int (Int32.ofNat j)), .val (.int (Int32.ofNat (lb i))), .val (.int (Int32.ofNat (lb j))), .val (.int (Int32.ofNat (min (lb i) (lb j)))), .val (.int (Int32.ofNat (max (lb i) (lb j))))] [])) _
      refine XS.aloadN X21.here hx rfl (hb hby d7_62) rfl rfl ?_
      show Steps p.tables e below (T21.setTop (mkF m 63 #[.val (.ref a1), .val (.ref a2), .val (.int (Int32.ofNat i)), .val (.int (Int32.ofNat j)), .val (.int (Int32.ofNat (lb i))), .val (.int (Int32.ofNat (lb j))), .val (.int (Int32.ofNat (min (lb i) (lb j)))), .val (.int (Int32.ofNat (max (lb i) (lb j))))] [(.ref a1)])) _
      refine XS.iconst X21.here hx rfl (hb hby d7_63) ?_
      show Steps p.tables e below (T21.setTop (mkF m 64 #[.val (.ref a1), .val (.ref a2), .val (.int (Int32.ofNat i)), .val (.int (Int32.ofNat j)), .val (.int (Int32.ofNat (lb i))), .val (.int (Int32.ofNat (lb j))), .val (.int (Int32.ofNat (min (lb i) (lb j)))), .val (.int (Int32.ofNat (max (lb i) (lb j))))] [(.int (2 : Int32)), (.ref a1)])) _
      obtain ⟨cl28, Ar28, -, S28, M28, H28, -⟩ := (id V_a1_21)
      have hin28 : ¬ ((2 : Int32) < 0 ∨ cl28.slots.size ≤ ((2 : Int32)).toNatClampNeg) := inb_of S28 ⟨by decide, by decide⟩
      refine X21.iaload hx (j := (2 : Int32)) (v := (.int (Int32.ofNat (lb 2)))) (by rw [e21]; exact Ar28.1) (State.isArrayOf_alike hZ.alike Ar28.2.1) Ar28.2.2 hin28 (H28.at hin28 rfl) (g := (mkF m 64 #[.val (.ref a1), .val (.ref a2), .val (.int (Int32.ofNat i)), .val (.int (Int32.ofNat j)), .val (.int (Int32.ofNat (lb i))), .val (.int (Int32.ofNat (lb j))), .val (.int (Int32.ofNat (min (lb i) (lb j)))), .val (.int (Int32.ofNat (max (lb i) (lb j))))] [(.int (2 : Int32)), (.ref a1)])) rfl rfl (hb hby d7_64) _ ?_
      show Steps p.tables e below (T21.setTop (mkF m 65 #[.val (.ref a1), .val (.ref a2), .val (.int (Int32.ofNat i)), .val (.int (Int32.ofNat j)), .val (.int (Int32.ofNat (lb i))), .val (.int (Int32.ofNat (lb j))), .val (.int (Int32.ofNat (min (lb i) (lb j)))), .val (.int (Int32.ofNat (max (lb i) (lb j))))] [(.int (Int32.ofNat (lb 2)))])) _
      refine XS.iload X21.here hx rfl (hb hby d7_65) rfl ?_
      exact kt
    obtain ⟨T30, h30, L30, X30, e30, N30, K30, Z30, V_a1_30, V_a2_30, pre30⟩ : ∃ (T' : State) (h' : Heap) (L' : List Loc), Stand p l e ({ frames := 1, cells := 0, slots := 0, locals := 13 } : Room) s m #[(.ref a1), (.ref a2), (.int (Int32.ofNat i)), (.int (Int32.ofNat j))] below meth c T' L' 0 0 ∧ T'.heap = h' ∧ Fr n0 L' ∧ Keep h0 h' [a1, a2] ∧ n0 ≤ h'.size ∧ Arv Z h' a1 kd .int (4 : Int32) [(.int (if (Int32.ofNat (lb 0)) = (Int32.ofNat (max (lb i) (lb j))) then (Int32.ofNat (min (lb i) (lb j))) else (Int32.ofNat (lb 0)))), (.int (if (Int32.ofNat (lb 1)) = (Int32.ofNat (max (lb i) (lb j))) then (Int32.ofNat (min (lb i) (lb j))) else (Int32.ofNat (lb 1)))), (.int (if (Int32.ofNat (lb 2)) = (Int32.ofNat (max (lb i) (lb j))) then (Int32.ofNat (min (lb i) (lb j))) else (Int32.ofNat (lb 2)))), (.int (Int32.ofNat (lb 3)))] (.int (0 : Int32)) ∧ Arv Z h' a2 kd2 .int (1 : Int32) [(.int w0)] (.int (0 : Int32)) ∧ ∀ t, Steps p.tables e below (T'.setTop (mkF m 75 #[.val (.ref a1), .val (.ref a2), .val (.int (Int32.ofNat i)), .val (.int (Int32.ofNat j)), .val (.int (Int32.ofNat (lb i))), .val (.int (Int32.ofNat (lb j))), .val (.int (Int32.ofNat (min (lb i) (lb j)))), .val (.int (Int32.ofNat (max (lb i) (lb j))))] [])) t → Steps p.tables e below (s₁.setTop (entryFrame m #[(.ref a1), (.ref a2), (.int (Int32.ofNat i)), (.int (Int32.ofNat j))] 8)) t := by
      by_cases hc67 : (Int32.ofNat (lb 2)) = (Int32.ofNat (max (lb i) (lb j)))
      · skip
        have pre31 : ∀ t, Steps p.tables e below (T21.setTop (mkF m 70 #[.val (.ref a1), .val (.ref a2), .val (.int (Int32.ofNat i)), .val (.int (Int32.ofNat j)), .val (.int (Int32.ofNat (lb i))), .val (.int (Int32.ofNat (lb j))), .val (.int (Int32.ofNat (min (lb i) (lb j)))), .val (.int (Int32.ofNat (max (lb i) (lb j))))] [])) t → Steps p.tables e below (s₁.setTop (entryFrame m #[(.ref a1), (.ref a2), (.int (Int32.ofNat i)), (.int (Int32.ofNat j))] 8)) t := by
          intro t kt
          refine pre29 t ?_
          show Steps p.tables e below (T21.setTop (mkF m 67 #[.val (.ref a1), .val (.ref a2), .val (.int (Int32.ofNat i)), .val (.int (Int32.ofNat j)), .val (.int (Int32.ofNat (lb i))), .val (.int (Int32.ofNat (lb j))), .val (.int (Int32.ofNat (min (lb i) (lb j)))), .val (.int (Int32.ofNat (max (lb i) (lb j))))] [(.int (Int32.ofNat (max (lb i) (lb j)))), (.int (Int32.ofNat (lb 2)))])) _
          refine XS.icmpNo X21.here hx rfl (hb hby d7_67) rfl (teq hc67).2 ?_
          exact kt
        have pre32 : ∀ t, Steps p.tables e below (T21.setTop (mkF m 74 #[.val (.ref a1), .val (.ref a2), .val (.int (Int32.ofNat i)), .val (.int (Int32.ofNat j)), .val (.int (Int32.ofNat (lb i))), .val (.int (Int32.ofNat (lb j))), .val (.int (Int32.ofNat (min (lb i) (lb j)))), .val (.int (Int32.ofNat (max (lb i) (lb j))))] [(.int (Int32.ofNat (min (lb i) (lb j)))), (.int (2 : Int32)), (.ref a1)])) t → Steps p.tables e below (s₁.setTop (entryFrame m #[(.ref a1), (.ref a2), (.int (Int32.ofNat i)), (.int (Int32.ofNat j))] 8)) t := by
          intro t kt
          refine pre31 t ?_
          show Steps p.tables e below (T21.setTop (mkF m 70 #[.val (.ref a1), .val (.ref a2), .val (.int (Int32.ofNat i)), .val (.int (Int32.ofNat j)), .val (.int (Int32.ofNat (lb i))), .val (.int (Int32.ofNat (lb j))), .val (.int (Int32.ofNat (min (lb i) (lb j)))), .val (.int (Int32.ofNat (max (lb i) (lb j))))] [])) _
          refine XS.aloadN X21.here hx rfl (hb hby d7_70) rfl rfl ?_
          show Steps p.tables e below (T21.setTop (mkF m 71 #[.val (.ref a1), .val (.ref a2), .val (.int (Int32.ofNat i)), .val (.int (Int32.ofNat j)), .val (.int (Int32.ofNat (lb i))), .val (.int (Int32.ofNat (lb j))), .val (.int (Int32.ofNat (min (lb i) (lb j)))), .val (.int (Int32.ofNat (max (lb i) (lb j))))] [(.ref a1)])) _
          refine XS.iconst X21.here hx rfl (hb hby d7_71) ?_
          show Steps p.tables e below (T21.setTop (mkF m 72 #[.val (.ref a1), .val (.ref a2), .val (.int (Int32.ofNat i)), .val (.int (Int32.ofNat j)), .val (.int (Int32.ofNat (lb i))), .val (.int (Int32.ofNat (lb j))), .val (.int (Int32.ofNat (min (lb i) (lb j)))), .val (.int (Int32.ofNat (max (lb i) (lb j))))] [(.int (2 : Int32)), (.ref a1)])) _
          refine XS.iload X21.here hx rfl (hb hby d7_72) rfl ?_
          exact kt
        obtain ⟨cl33, Ar33, q33, S33, M33, H33, G33⟩ := (id V_a1_21)
        have hin33 : ¬ ((2 : Int32) < 0 ∨ cl33.slots.size ≤ ((2 : Int32)).toNatClampNeg) := inb_of S33 ⟨by decide, by decide⟩
        obtain ⟨T33, h33, X33, e33, W33, st33⟩ := stI X21 hx hZ e21 Ar33 (j := (2 : Int32)) hin33 (g := (mkF m 74 #[.val (.ref a1), .val (.ref a2), .val (.int (Int32.ofNat i)), .val (.int (Int32.ofNat j)), .val (.int (Int32.ofNat (lb i))), .val (.int (Int32.ofNat (lb j))), .val (.int (Int32.ofNat (min (lb i) (lb j)))), .val (.int (Int32.ofNat (max (lb i) (lb j))))] [(.int (Int32.ofNat (min (lb i) (lb j)))), (.int (2 : Int32)), (.ref a1)])) rfl rfl (hb hby d7_74)
        have V_a1_33 := Arv.set Ar33 q33 S33 M33 H33 G33 rfl W33 2 rfl (Nat.le_of_ble_eq_true rfl)
        have N33 := Fr.snoc X33 N21 ge_a1
        have K33 : Keep h0 h33 [a1, a2] := K21.wr W33 (Or.inl (List.mem_of_getElem? (i := 0) rfl))
        have Z33 : n0 ≤ h33.size := Nat.le_trans Z21 (Keep.of_wr W33).1
        have V_a2_35 := V_a2_21.other W33 (Ne.symm ne_a1_a2)
        have V_a1_33' : Arv Z h33 a1 kd .int (4 : Int32) [(.int (if (Int32.ofNat (lb 0)) = (Int32.ofNat (max (lb i) (lb j))) then (Int32.ofNat (min (lb i) (lb j))) else (Int32.ofNat (lb 0)))), (.int (if (Int32.ofNat (lb 1)) = (Int32.ofNat (max (lb i) (lb j))) then (Int32.ofNat (min (lb i) (lb j))) else (Int32.ofNat (lb 1)))), (.int (Int32.ofNat (min (lb i) (lb j)))), (.int (Int32.ofNat (lb 3)))] (.int (0 : Int32)) := V_a1_33
        have pre33 : ∀ t, Steps p.tables e below (T33.setTop (mkF m 75 #[.val (.ref a1), .val (.ref a2), .val (.int (Int32.ofNat i)), .val (.int (Int32.ofNat j)), .val (.int (Int32.ofNat (lb i))), .val (.int (Int32.ofNat (lb j))), .val (.int (Int32.ofNat (min (lb i) (lb j)))), .val (.int (Int32.ofNat (max (lb i) (lb j))))] [])) t → Steps p.tables e below (s₁.setTop (entryFrame m #[(.ref a1), (.ref a2), (.int (Int32.ofNat i)), (.int (Int32.ofNat j))] 8)) t := fun t kt => pre32 t (st33 _ kt)
        exact ⟨_, _, _, X33, e33, N33, K33, Z33, (by (try simp only [if_pos hc67]); exact V_a1_33'), V_a2_35, (by (try simp only [if_pos hc67]); exact pre33)⟩
      · skip
        have pre36 : ∀ t, Steps p.tables e below (T21.setTop (mkF m 75 #[.val (.ref a1), .val (.ref a2), .val (.int (Int32.ofNat i)), .val (.int (Int32.ofNat j)), .val (.int (Int32.ofNat (lb i))), .val (.int (Int32.ofNat (lb j))), .val (.int (Int32.ofNat (min (lb i) (lb j)))), .val (.int (Int32.ofNat (max (lb i) (lb j))))] [])) t → Steps p.tables e below (s₁.setTop (entryFrame m #[(.ref a1), (.ref a2), (.int (Int32.ofNat i)), (.int (Int32.ofNat j))] 8)) t := by
          intro t kt
          refine pre29 t ?_
          show Steps p.tables e below (T21.setTop (mkF m 67 #[.val (.ref a1), .val (.ref a2), .val (.int (Int32.ofNat i)), .val (.int (Int32.ofNat j)), .val (.int (Int32.ofNat (lb i))), .val (.int (Int32.ofNat (lb j))), .val (.int (Int32.ofNat (min (lb i) (lb j)))), .val (.int (Int32.ofNat (max (lb i) (lb j))))] [(.int (Int32.ofNat (max (lb i) (lb j)))), (.int (Int32.ofNat (lb 2)))])) _
          refine XS.icmpYes X21.here hx rfl (pc0 := 67) (pc' := 75) rfl (hb hby d7_67) rfl (feq hc67).2 (by decide) (by decide) ?_
          exact kt
        exact ⟨_, _, _, X21, e21, N21, K21, Z21, (by (try simp only [if_neg hc67]); exact V_a1_21), V_a2_21, (by (try simp only [if_neg hc67]); exact pre36)⟩
    have pre38 : ∀ t, Steps p.tables e below (T30.setTop (mkF m 80 #[.val (.ref a1), .val (.ref a2), .val (.int (Int32.ofNat i)), .val (.int (Int32.ofNat j)), .val (.int (Int32.ofNat (lb i))), .val (.int (Int32.ofNat (lb j))), .val (.int (Int32.ofNat (min (lb i) (lb j)))), .val (.int (Int32.ofNat (max (lb i) (lb j))))] [(.int (Int32.ofNat (max (lb i) (lb j)))), (.int (Int32.ofNat (lb 3)))])) t → Steps p.tables e below (s₁.setTop (entryFrame m #[(.ref a1), (.ref a2), (.int (Int32.ofNat i)), (.int (Int32.ofNat j))] 8)) t := by
      intro t kt
      refine pre30 t ?_
      show Steps p.tables e below (T30.setTop (mkF m 75 #[.val (.ref a1), .val (.ref a2), .val (.int (Int32.ofNat i)), .val (.int (Int32.ofNat j)), .val (.int (Int32.ofNat (lb i))), .val (.int (Int32.ofNat (lb j))), .val (.int (Int32.ofNat (min (lb i) (lb j)))), .val (.int (Int32.ofNat (max (lb i) (lb j))))] [])) _
      refine XS.aloadN X30.here hx rfl (hb hby d7_75) rfl rfl ?_
      show Steps p.tables e below (T30.setTop (mkF m 76 #[.val (.ref a1), .val (.ref a2), .val (.int (Int32.ofNat i)), .val (.int (Int32.ofNat j)), .val (.int (Int32.ofNat (lb i))), .val (.int (Int32.ofNat (lb j))), .val (.int (Int32.ofNat (min (lb i) (lb j)))), .val (.int (Int32.ofNat (max (lb i) (lb j))))] [(.ref a1)])) _
      refine XS.iconst X30.here hx rfl (hb hby d7_76) ?_
      show Steps p.tables e below (T30.setTop (mkF m 77 #[.val (.ref a1), .val (.ref a2), .val (.int (Int32.ofNat i)), .val (.int (Int32.ofNat j)), .val (.int (Int32.ofNat (lb i))), .val (.int (Int32.ofNat (lb j))), .val (.int (Int32.ofNat (min (lb i) (lb j)))), .val (.int (Int32.ofNat (max (lb i) (lb j))))] [(.int (3 : Int32)), (.ref a1)])) _
      obtain ⟨cl37, Ar37, -, S37, M37, H37, -⟩ := (id V_a1_30)
      have hin37 : ¬ ((3 : Int32) < 0 ∨ cl37.slots.size ≤ ((3 : Int32)).toNatClampNeg) := inb_of S37 ⟨by decide, by decide⟩
      refine X30.iaload hx (j := (3 : Int32)) (v := (.int (Int32.ofNat (lb 3)))) (by rw [e30]; exact Ar37.1) (State.isArrayOf_alike hZ.alike Ar37.2.1) Ar37.2.2 hin37 (H37.at hin37 rfl) (g := (mkF m 77 #[.val (.ref a1), .val (.ref a2), .val (.int (Int32.ofNat i)), .val (.int (Int32.ofNat j)), .val (.int (Int32.ofNat (lb i))), .val (.int (Int32.ofNat (lb j))), .val (.int (Int32.ofNat (min (lb i) (lb j)))), .val (.int (Int32.ofNat (max (lb i) (lb j))))] [(.int (3 : Int32)), (.ref a1)])) rfl rfl (hb hby d7_77) _ ?_
      show Steps p.tables e below (T30.setTop (mkF m 78 #[.val (.ref a1), .val (.ref a2), .val (.int (Int32.ofNat i)), .val (.int (Int32.ofNat j)), .val (.int (Int32.ofNat (lb i))), .val (.int (Int32.ofNat (lb j))), .val (.int (Int32.ofNat (min (lb i) (lb j)))), .val (.int (Int32.ofNat (max (lb i) (lb j))))] [(.int (Int32.ofNat (lb 3)))])) _
      refine XS.iload X30.here hx rfl (hb hby d7_78) rfl ?_
      exact kt
    obtain ⟨T39, h39, L39, X39, e39, N39, K39, Z39, V_a1_39, V_a2_39, pre39⟩ : ∃ (T' : State) (h' : Heap) (L' : List Loc), Stand p l e ({ frames := 1, cells := 0, slots := 0, locals := 13 } : Room) s m #[(.ref a1), (.ref a2), (.int (Int32.ofNat i)), (.int (Int32.ofNat j))] below meth c T' L' 0 0 ∧ T'.heap = h' ∧ Fr n0 L' ∧ Keep h0 h' [a1, a2] ∧ n0 ≤ h'.size ∧ Arv Z h' a1 kd .int (4 : Int32) [(.int (if (Int32.ofNat (lb 0)) = (Int32.ofNat (max (lb i) (lb j))) then (Int32.ofNat (min (lb i) (lb j))) else (Int32.ofNat (lb 0)))), (.int (if (Int32.ofNat (lb 1)) = (Int32.ofNat (max (lb i) (lb j))) then (Int32.ofNat (min (lb i) (lb j))) else (Int32.ofNat (lb 1)))), (.int (if (Int32.ofNat (lb 2)) = (Int32.ofNat (max (lb i) (lb j))) then (Int32.ofNat (min (lb i) (lb j))) else (Int32.ofNat (lb 2)))), (.int (if (Int32.ofNat (lb 3)) = (Int32.ofNat (max (lb i) (lb j))) then (Int32.ofNat (min (lb i) (lb j))) else (Int32.ofNat (lb 3))))] (.int (0 : Int32)) ∧ Arv Z h' a2 kd2 .int (1 : Int32) [(.int w0)] (.int (0 : Int32)) ∧ ∀ t, Steps p.tables e below (T'.setTop (mkF m 88 #[.val (.ref a1), .val (.ref a2), .val (.int (Int32.ofNat i)), .val (.int (Int32.ofNat j)), .val (.int (Int32.ofNat (lb i))), .val (.int (Int32.ofNat (lb j))), .val (.int (Int32.ofNat (min (lb i) (lb j)))), .val (.int (Int32.ofNat (max (lb i) (lb j))))] [])) t → Steps p.tables e below (s₁.setTop (entryFrame m #[(.ref a1), (.ref a2), (.int (Int32.ofNat i)), (.int (Int32.ofNat j))] 8)) t := by
      by_cases hc80 : (Int32.ofNat (lb 3)) = (Int32.ofNat (max (lb i) (lb j)))
      · skip
        have pre40 : ∀ t, Steps p.tables e below (T30.setTop (mkF m 83 #[.val (.ref a1), .val (.ref a2), .val (.int (Int32.ofNat i)), .val (.int (Int32.ofNat j)), .val (.int (Int32.ofNat (lb i))), .val (.int (Int32.ofNat (lb j))), .val (.int (Int32.ofNat (min (lb i) (lb j)))), .val (.int (Int32.ofNat (max (lb i) (lb j))))] [])) t → Steps p.tables e below (s₁.setTop (entryFrame m #[(.ref a1), (.ref a2), (.int (Int32.ofNat i)), (.int (Int32.ofNat j))] 8)) t := by
          intro t kt
          refine pre38 t ?_
          show Steps p.tables e below (T30.setTop (mkF m 80 #[.val (.ref a1), .val (.ref a2), .val (.int (Int32.ofNat i)), .val (.int (Int32.ofNat j)), .val (.int (Int32.ofNat (lb i))), .val (.int (Int32.ofNat (lb j))), .val (.int (Int32.ofNat (min (lb i) (lb j)))), .val (.int (Int32.ofNat (max (lb i) (lb j))))] [(.int (Int32.ofNat (max (lb i) (lb j)))), (.int (Int32.ofNat (lb 3)))])) _
          refine XS.icmpNo X30.here hx rfl (hb hby d7_80) rfl (teq hc80).2 ?_
          exact kt
        have pre41 : ∀ t, Steps p.tables e below (T30.setTop (mkF m 87 #[.val (.ref a1), .val (.ref a2), .val (.int (Int32.ofNat i)), .val (.int (Int32.ofNat j)), .val (.int (Int32.ofNat (lb i))), .val (.int (Int32.ofNat (lb j))), .val (.int (Int32.ofNat (min (lb i) (lb j)))), .val (.int (Int32.ofNat (max (lb i) (lb j))))] [(.int (Int32.ofNat (min (lb i) (lb j)))), (.int (3 : Int32)), (.ref a1)])) t → Steps p.tables e below (s₁.setTop (entryFrame m #[(.ref a1), (.ref a2), (.int (Int32.ofNat i)), (.int (Int32.ofNat j))] 8)) t := by
          intro t kt
          refine pre40 t ?_
          show Steps p.tables e below (T30.setTop (mkF m 83 #[.val (.ref a1), .val (.ref a2), .val (.int (Int32.ofNat i)), .val (.int (Int32.ofNat j)), .val (.int (Int32.ofNat (lb i))), .val (.int (Int32.ofNat (lb j))), .val (.int (Int32.ofNat (min (lb i) (lb j)))), .val (.int (Int32.ofNat (max (lb i) (lb j))))] [])) _
          refine XS.aloadN X30.here hx rfl (hb hby d7_83) rfl rfl ?_
          show Steps p.tables e below (T30.setTop (mkF m 84 #[.val (.ref a1), .val (.ref a2), .val (.int (Int32.ofNat i)), .val (.int (Int32.ofNat j)), .val (.int (Int32.ofNat (lb i))), .val (.int (Int32.ofNat (lb j))), .val (.int (Int32.ofNat (min (lb i) (lb j)))), .val (.int (Int32.ofNat (max (lb i) (lb j))))] [(.ref a1)])) _
          refine XS.iconst X30.here hx rfl (hb hby d7_84) ?_
          show Steps p.tables e below (T30.setTop (mkF m 85 #[.val (.ref a1), .val (.ref a2), .val (.int (Int32.ofNat i)), .val (.int (Int32.ofNat j)), .val (.int (Int32.ofNat (lb i))), .val (.int (Int32.ofNat (lb j))), .val (.int (Int32.ofNat (min (lb i) (lb j)))), .val (.int (Int32.ofNat (max (lb i) (lb j))))] [(.int (3 : Int32)), (.ref a1)])) _
          refine XS.iload X30.here hx rfl (hb hby d7_85) rfl ?_
          exact kt
        obtain ⟨cl42, Ar42, q42, S42, M42, H42, G42⟩ := (id V_a1_30)
        have hin42 : ¬ ((3 : Int32) < 0 ∨ cl42.slots.size ≤ ((3 : Int32)).toNatClampNeg) := inb_of S42 ⟨by decide, by decide⟩
        obtain ⟨T42, h42, X42, e42, W42, st42⟩ := stI X30 hx hZ e30 Ar42 (j := (3 : Int32)) hin42 (g := (mkF m 87 #[.val (.ref a1), .val (.ref a2), .val (.int (Int32.ofNat i)), .val (.int (Int32.ofNat j)), .val (.int (Int32.ofNat (lb i))), .val (.int (Int32.ofNat (lb j))), .val (.int (Int32.ofNat (min (lb i) (lb j)))), .val (.int (Int32.ofNat (max (lb i) (lb j))))] [(.int (Int32.ofNat (min (lb i) (lb j)))), (.int (3 : Int32)), (.ref a1)])) rfl rfl (hb hby d7_87)
        have V_a1_42 := Arv.set Ar42 q42 S42 M42 H42 G42 rfl W42 3 rfl (Nat.le_of_ble_eq_true rfl)
        have N42 := Fr.snoc X42 N30 ge_a1
        have K42 : Keep h0 h42 [a1, a2] := K30.wr W42 (Or.inl (List.mem_of_getElem? (i := 0) rfl))
        have Z42 : n0 ≤ h42.size := Nat.le_trans Z30 (Keep.of_wr W42).1
        have V_a2_44 := V_a2_30.other W42 (Ne.symm ne_a1_a2)
        have V_a1_42' : Arv Z h42 a1 kd .int (4 : Int32) [(.int (if (Int32.ofNat (lb 0)) = (Int32.ofNat (max (lb i) (lb j))) then (Int32.ofNat (min (lb i) (lb j))) else (Int32.ofNat (lb 0)))), (.int (if (Int32.ofNat (lb 1)) = (Int32.ofNat (max (lb i) (lb j))) then (Int32.ofNat (min (lb i) (lb j))) else (Int32.ofNat (lb 1)))), (.int (if (Int32.ofNat (lb 2)) = (Int32.ofNat (max (lb i) (lb j))) then (Int32.ofNat (min (lb i) (lb j))) else (Int32.ofNat (lb 2)))), (.int (Int32.ofNat (min (lb i) (lb j))))] (.int (0 : Int32)) := V_a1_42
        have pre42 : ∀ t, Steps p.tables e below (T42.setTop (mkF m 88 #[.val (.ref a1), .val (.ref a2), .val (.int (Int32.ofNat i)), .val (.int (Int32.ofNat j)), .val (.int (Int32.ofNat (lb i))), .val (.int (Int32.ofNat (lb j))), .val (.int (Int32.ofNat (min (lb i) (lb j)))), .val (.int (Int32.ofNat (max (lb i) (lb j))))] [])) t → Steps p.tables e below (s₁.setTop (entryFrame m #[(.ref a1), (.ref a2), (.int (Int32.ofNat i)), (.int (Int32.ofNat j))] 8)) t := fun t kt => pre41 t (st42 _ kt)
        exact ⟨_, _, _, X42, e42, N42, K42, Z42, (by (try simp only [if_pos hc80]); exact V_a1_42'), V_a2_44, (by (try simp only [if_pos hc80]); exact pre42)⟩
      · skip
        have pre45 : ∀ t, Steps p.tables e below (T30.setTop (mkF m 88 #[.val (.ref a1), .val (.ref a2), .val (.int (Int32.ofNat i)), .val (.int (Int32.ofNat j)), .val (.int (Int32.ofNat (lb i))), .val (.int (Int32.ofNat (lb j))), .val (.int (Int32.ofNat (min (lb i) (lb j)))), .val (.int (Int32.ofNat (max (lb i) (lb j))))] [])) t → Steps p.tables e below (s₁.setTop (entryFrame m #[(.ref a1), (.ref a2), (.int (Int32.ofNat i)), (.int (Int32.ofNat j))] 8)) t := by
          intro t kt
          refine pre38 t ?_
          show Steps p.tables e below (T30.setTop (mkF m 80 #[.val (.ref a1), .val (.ref a2), .val (.int (Int32.ofNat i)), .val (.int (Int32.ofNat j)), .val (.int (Int32.ofNat (lb i))), .val (.int (Int32.ofNat (lb j))), .val (.int (Int32.ofNat (min (lb i) (lb j)))), .val (.int (Int32.ofNat (max (lb i) (lb j))))] [(.int (Int32.ofNat (max (lb i) (lb j)))), (.int (Int32.ofNat (lb 3)))])) _
          refine XS.icmpYes X30.here hx rfl (pc0 := 80) (pc' := 88) rfl (hb hby d7_80) rfl (feq hc80).2 (by decide) (by decide) ?_
          exact kt
        exact ⟨_, _, _, X30, e30, N30, K30, Z30, (by (try simp only [if_neg hc80]); exact V_a1_30), V_a2_30, (by (try simp only [if_neg hc80]); exact pre45)⟩
    have pre47 : ∀ t, Steps p.tables e below (T39.setTop (mkF m 95 #[.val (.ref a1), .val (.ref a2), .val (.int (Int32.ofNat i)), .val (.int (Int32.ofNat j)), .val (.int (Int32.ofNat (lb i))), .val (.int (Int32.ofNat (lb j))), .val (.int (Int32.ofNat (min (lb i) (lb j)))), .val (.int (Int32.ofNat (max (lb i) (lb j))))] [(.int (w0 - (1 : Int32))), (.int (0 : Int32)), (.ref a2)])) t → Steps p.tables e below (s₁.setTop (entryFrame m #[(.ref a1), (.ref a2), (.int (Int32.ofNat i)), (.int (Int32.ofNat j))] 8)) t := by
      intro t kt
      refine pre39 t ?_
      show Steps p.tables e below (T39.setTop (mkF m 88 #[.val (.ref a1), .val (.ref a2), .val (.int (Int32.ofNat i)), .val (.int (Int32.ofNat j)), .val (.int (Int32.ofNat (lb i))), .val (.int (Int32.ofNat (lb j))), .val (.int (Int32.ofNat (min (lb i) (lb j)))), .val (.int (Int32.ofNat (max (lb i) (lb j))))] [])) _
      refine XS.aloadN X39.here hx rfl (hb hby d7_88) rfl rfl ?_
      show Steps p.tables e below (T39.setTop (mkF m 89 #[.val (.ref a1), .val (.ref a2), .val (.int (Int32.ofNat i)), .val (.int (Int32.ofNat j)), .val (.int (Int32.ofNat (lb i))), .val (.int (Int32.ofNat (lb j))), .val (.int (Int32.ofNat (min (lb i) (lb j)))), .val (.int (Int32.ofNat (max (lb i) (lb j))))] [(.ref a2)])) _
      refine XS.iconst X39.here hx rfl (hb hby d7_89) ?_
      show Steps p.tables e below (T39.setTop (mkF m 90 #[.val (.ref a1), .val (.ref a2), .val (.int (Int32.ofNat i)), .val (.int (Int32.ofNat j)), .val (.int (Int32.ofNat (lb i))), .val (.int (Int32.ofNat (lb j))), .val (.int (Int32.ofNat (min (lb i) (lb j)))), .val (.int (Int32.ofNat (max (lb i) (lb j))))] [(.int (0 : Int32)), (.ref a2)])) _
      refine XS.aloadN X39.here hx rfl (hb hby d7_90) rfl rfl ?_
      show Steps p.tables e below (T39.setTop (mkF m 91 #[.val (.ref a1), .val (.ref a2), .val (.int (Int32.ofNat i)), .val (.int (Int32.ofNat j)), .val (.int (Int32.ofNat (lb i))), .val (.int (Int32.ofNat (lb j))), .val (.int (Int32.ofNat (min (lb i) (lb j)))), .val (.int (Int32.ofNat (max (lb i) (lb j))))] [(.ref a2), (.int (0 : Int32)), (.ref a2)])) _
      refine XS.iconst X39.here hx rfl (hb hby d7_91) ?_
      show Steps p.tables e below (T39.setTop (mkF m 92 #[.val (.ref a1), .val (.ref a2), .val (.int (Int32.ofNat i)), .val (.int (Int32.ofNat j)), .val (.int (Int32.ofNat (lb i))), .val (.int (Int32.ofNat (lb j))), .val (.int (Int32.ofNat (min (lb i) (lb j)))), .val (.int (Int32.ofNat (max (lb i) (lb j))))] [(.int (0 : Int32)), (.ref a2), (.int (0 : Int32)), (.ref a2)])) _
      obtain ⟨cl46, Ar46, -, S46, M46, H46, -⟩ := (id V_a2_39)
      have hin46 : ¬ ((0 : Int32) < 0 ∨ cl46.slots.size ≤ ((0 : Int32)).toNatClampNeg) := inb_of S46 ⟨by decide, by decide⟩
      refine X39.iaload hx (j := (0 : Int32)) (v := (.int w0)) (by rw [e39]; exact Ar46.1) (State.isArrayOf_alike hZ.alike Ar46.2.1) Ar46.2.2 hin46 (H46.at hin46 rfl) (g := (mkF m 92 #[.val (.ref a1), .val (.ref a2), .val (.int (Int32.ofNat i)), .val (.int (Int32.ofNat j)), .val (.int (Int32.ofNat (lb i))), .val (.int (Int32.ofNat (lb j))), .val (.int (Int32.ofNat (min (lb i) (lb j)))), .val (.int (Int32.ofNat (max (lb i) (lb j))))] [(.int (0 : Int32)), (.ref a2), (.int (0 : Int32)), (.ref a2)])) rfl rfl (hb hby d7_92) _ ?_
      show Steps p.tables e below (T39.setTop (mkF m 93 #[.val (.ref a1), .val (.ref a2), .val (.int (Int32.ofNat i)), .val (.int (Int32.ofNat j)), .val (.int (Int32.ofNat (lb i))), .val (.int (Int32.ofNat (lb j))), .val (.int (Int32.ofNat (min (lb i) (lb j)))), .val (.int (Int32.ofNat (max (lb i) (lb j))))] [(.int w0), (.int (0 : Int32)), (.ref a2)])) _
      refine XS.iconst X39.here hx rfl (hb hby d7_93) ?_
      show Steps p.tables e below (T39.setTop (mkF m 94 #[.val (.ref a1), .val (.ref a2), .val (.int (Int32.ofNat i)), .val (.int (Int32.ofNat j)), .val (.int (Int32.ofNat (lb i))), .val (.int (Int32.ofNat (lb j))), .val (.int (Int32.ofNat (min (lb i) (lb j)))), .val (.int (Int32.ofNat (max (lb i) (lb j))))] [(.int (1 : Int32)), (.int w0), (.int (0 : Int32)), (.ref a2)])) _
      refine XS.isub X39.here hx rfl (hb hby d7_94) rfl ?_
      exact kt
    obtain ⟨cl48, Ar48, q48, S48, M48, H48, G48⟩ := (id V_a2_39)
    have hin48 : ¬ ((0 : Int32) < 0 ∨ cl48.slots.size ≤ ((0 : Int32)).toNatClampNeg) := inb_of S48 ⟨by decide, by decide⟩
    obtain ⟨T48, h48, X48, e48, W48, st48⟩ := stI X39 hx hZ e39 Ar48 (j := (0 : Int32)) hin48 (g := (mkF m 95 #[.val (.ref a1), .val (.ref a2), .val (.int (Int32.ofNat i)), .val (.int (Int32.ofNat j)), .val (.int (Int32.ofNat (lb i))), .val (.int (Int32.ofNat (lb j))), .val (.int (Int32.ofNat (min (lb i) (lb j)))), .val (.int (Int32.ofNat (max (lb i) (lb j))))] [(.int (w0 - (1 : Int32))), (.int (0 : Int32)), (.ref a2)])) rfl rfl (hb hby d7_95)
    have V_a2_48 := Arv.set Ar48 q48 S48 M48 H48 G48 rfl W48 0 rfl (Nat.le_of_ble_eq_true rfl)
    have N48 := Fr.snoc X48 N39 ge_a2
    have K48 : Keep h0 h48 [a1, a2] := K39.wr W48 (Or.inl (List.mem_of_getElem? (i := 1) rfl))
    have Z48 : n0 ≤ h48.size := Nat.le_trans Z39 (Keep.of_wr W48).1
    have V_a1_49 := V_a1_39.other W48 ne_a1_a2
    have V_a2_48' : Arv Z h48 a2 kd2 .int (1 : Int32) [(.int (w0 - (1 : Int32)))] (.int (0 : Int32)) := V_a2_48
    have pre48 : ∀ t, Steps p.tables e below (T48.setTop (mkF m 96 #[.val (.ref a1), .val (.ref a2), .val (.int (Int32.ofNat i)), .val (.int (Int32.ofNat j)), .val (.int (Int32.ofNat (lb i))), .val (.int (Int32.ofNat (lb j))), .val (.int (Int32.ofNat (min (lb i) (lb j)))), .val (.int (Int32.ofNat (max (lb i) (lb j))))] [])) t → Steps p.tables e below (s₁.setTop (entryFrame m #[(.ref a1), (.ref a2), (.int (Int32.ofNat i)), (.int (Int32.ofNat j))] 8)) t := fun t kt => pre47 t (st48 _ kt)
    have VF : Arv Z h48 a1 kd .int (4 : Int32) (own_l (own_lk lb i j)) (.int (0 : Int32)) := by
      have hM : (max (lb i) (lb j)) < 4 := by omega
      have e := V_a1_49
      rw [own_ite (hl 0 (by decide)) hM, own_ite (hl 1 (by decide)) hM, own_ite (hl 2 (by decide)) hM, own_ite (hl 3 (by decide)) hM] at e
      exact e
    have VG : Arv Z h48 a2 kd2 .int (1 : Int32) [.int (if lb i = lb j then w0 else w0 - 1)] (.int (0 : Int32)) := by rw [if_neg (fun z => hc14 (congrArg Int32.ofNat z))]; exact V_a2_48'
    obtain ⟨fs, hr, hrun, hended, hW, hsame⟩ := X48.leave (v := none) (fun _ => rfl)
    refine ⟨_, _, pre48 _ ?_, hrun, hended, _, _, rfl, ?_, ⟨_, rfl⟩, hW, hsame.mono (by decide) (by decide)⟩
    · show Steps p.tables e below (T48.setTop (mkF m 96 #[.val (.ref a1), .val (.ref a2), .val (.int (Int32.ofNat i)), .val (.int (Int32.ofNat j)), .val (.int (Int32.ofNat (lb i))), .val (.int (Int32.ofNat (lb j))), .val (.int (Int32.ofNat (min (lb i) (lb j)))), .val (.int (Int32.ofNat (max (lb i) (lb j))))] [])) _
      exact X48.returnOut hx Bd.returns (hb hby d7_96) hr
    · show Qrm7 Z a1 a2 (Int32.ofNat i) (Int32.ofNat j) kd kd2 w0 lb i j h0 n0 _ T48.heap _
      rw [e48]
      exact ⟨rfl, N48, K48, VF, VG⟩
def Qrm8 (Z : State) (a1 : Addr) (w1 : Int32) (h0 : Heap) (n0 : Nat) (v : Option Value) (h : Heap) (L : List Loc) : Prop := v = some (.int w1) ∧ Fr n0 L ∧ h = h0
theorem d8_0 : decode prog_3_method_4_code 0 = .ok (.aload_n 0, 1) := by decide +kernel
theorem d8_1 : decode prog_3_method_4_code 1 = .ok (.getfield 22, 3) := by decide +kernel
theorem d8_4 : decode prog_3_method_4_code 4 = .ok (.ireturn, 1) := by decide +kernel
theorem ef_8 (m : MethodId) (x0 : Addr) : entryFrame m #[(.ref x0)] 1 = mkF m 0 #[.val (.ref x0)] [] := by first | (simp [entryFrame, mkF, argsToLocals, Value.category]; done) | rfl
set_option maxRecDepth 65536 in
set_option maxHeartbeats 40000000 in
theorem rm8 (l : Launch) (Z : State) (a0 : Array Value) (hw : ∀ d ∈ tables_1, d.before a0 Z = true) (ws : List Jvm.Cond) (a1 : Addr) (w1 : Int32) (h0 : Heap) (n0 : Nat) (Z0 : n0 ≤ h0.size) (F_count_a1 : Fld Z h0 a1 "com/example/vertumnus/vertumnus/Partitions" "count" "I" (.int w1)) :
    MetFree l (⟨"com/example/vertumnus/vertumnus/Partitions", "count", "()I"⟩ : MethodName) (head1 (Jvm.Cond.code (⟨"com/example/vertumnus/vertumnus/Partitions", "count", "()I"⟩ : MethodName) prog_3_method_4_code 1 (some .int) :: ws) ({ frames := 0, cells := 0, slots := 0, locals := 0 } : Room)) (fun a U => a = #[(.ref a1)] ∧ Z.Warmed39 U.vm ∧ U.heap = h0) (fun _ _ _ _ _ => True) (fun _ U o U' => ∃ v L, o = .returned v ∧ Qrm8 Z a1 w1 h0 n0 v U'.heap L ∧ FrameEnd U o U' L ({ frames := 0, cells := 0, slots := 0, locals := 0 } : Room).cells ({ frames := 0, cells := 0, slots := 0, locals := 0 } : Room).slots) := by
  refine MetFree.of_bodySF (plainFor_of_name pn_0) hisR ?_
  intro p e s m args below meth c s₁ Bd hml0 hP hK
  obtain ⟨rfl, hZ, hh⟩ := hP
  have hx := Bd.exec
  have hby := Bd.bytes
  have hml : c.maxLocals = 1 := hml0
  have hown : s.vm.findClass "com/example/vertumnus/vertumnus/Partitions" = some m.cls := findClass_of_methodNamed Bd.named
  have hnm := (name_of_methodNamed Bd.named Bd.method).1
  have X0 : Stand p l e ({ frames := 0, cells := 0, slots := 0, locals := 0 } : Room) s m #[(.ref a1)] below meth c s₁ [] 0 0 := Stand.of_body Bd
  have e0 : s₁.heap = h0 := by rw [← hh, Bd.state]; rfl
  have N0 := Fr.nil n0
  have pre0 : ∀ t, Steps p.tables e below (s₁.setTop (mkF m 0 #[.val (.ref a1)] [])) t → Steps p.tables e below (s₁.setTop (entryFrame m #[(.ref a1)] 1)) t := fun t k => castTop (ef_8 m a1) k
  have pre1 : ∀ t, Steps p.tables e below (s₁.setTop (mkF m 1 #[.val (.ref a1)] [(.ref a1)])) t → Steps p.tables e below (s₁.setTop (entryFrame m #[(.ref a1)] 1)) t := by
    intro t kt
    refine pre0 t ?_
    show Steps p.tables e below (s₁.setTop (mkF m 0 #[.val (.ref a1)] [])) _
    refine XS.aloadN X0.here hx rfl (hb hby d8_0) rfl rfl ?_
    exact kt
  obtain ⟨T2, X2, e2, st2⟩ := getF X0 hx hZ hown (host := "") (Or.inl (hw _ (List.mem_of_getElem? (i := 12) rfl))) Via.refl e0 F_count_a1 (g := (mkF m 1 #[.val (.ref a1)] [(.ref a1)])) rfl rfl (hb hby d8_1)
  have pre2 : ∀ t, Steps p.tables e below (T2.setTop (mkF m 4 #[.val (.ref a1)] [(.int w1)])) t → Steps p.tables e below (s₁.setTop (entryFrame m #[(.ref a1)] 1)) t := fun t kt => pre1 t (st2 _ kt)
  obtain ⟨fs, hr, hrun, hended, hW, hsame⟩ := X2.leave (v := some (.int w1)) (fun h => by rw [Bd.returns] at h; cases h)
  refine ⟨_, _, pre2 _ ?_, hrun, hended, _, _, rfl, ?_, ⟨_, rfl⟩, hW, hsame.mono (by decide) (by decide)⟩
  · show Steps p.tables e below (T2.setTop (mkF m 4 #[.val (.ref a1)] [(.int w1)])) _
    exact retI X2 hx Bd.returns (hb hby d8_4) hr
  · show Qrm8 Z a1 w1 h0 n0 _ T2.heap _
    rw [e2]
    exact ⟨rfl, N0, rfl⟩
def Q0 (n0 : Nat) (v : Option Value) (h : Heap) (L : List Loc) : Prop := v = some (.int (1 : Int32)) ∧ Fr n0 L
theorem ef_0 (m : MethodId) (x0 : Int32) (x1 : Int32) (x2 : Int32) (x3 : Int32) (x4 : Int32) (x5 : Int32) : entryFrame m #[(.int x0), (.int x1), (.int x2), (.int x3), (.int x4), (.int x5)] maxLocals = mkF m 0 #[.val (.int x0), .val (.int x1), .val (.int x2), .val (.int x3), .val (.int x4), .val (.int x5), .unset, .unset, .unset, .unset, .unset, .unset, .unset, .unset, .unset] [] := by first | (simp [entryFrame, mkF, argsToLocals, Value.category, maxLocals]; done) | rfl
set_option maxRecDepth 65536 in
set_option maxHeartbeats 40000000 in
theorem rm0 (l : Launch) (Z : State) (a0 : Array Value) (hw : ∀ d ∈ tables_1, d.before a0 Z = true) (ws : List Jvm.Cond) (p1 : Int32) (p2 : Int32) (p3 : Int32) (p4 : Int32) (p5 : Int32) (p6 : Int32) (h0 : Heap) (n0 : Nat) (Z0 : n0 ≤ h0.size) :
    MetFree l x (head1 (Jvm.Cond.code x code maxLocals ret :: ws) room_1) (fun a U => a = #[(.int p1), (.int p2), (.int p3), (.int p4), (.int p5), (.int p6)] ∧ Z.Warmed39 U.vm ∧ U.heap = h0) (fun _ _ _ _ _ => True) (fun _ U o U' => ∃ v L, o = .returned v ∧ Q0 n0 v U'.heap L ∧ FrameEnd U o U' L room_1.cells room_1.slots) := by
  refine MetFree.of_bodySF (plainFor_of_name pn_1) hisR ?_
  intro p e s m args below meth c s₁ Bd hml0 hP hK
  obtain ⟨rfl, hZ, hh⟩ := hP
  have hx := Bd.exec
  have hby := Bd.bytes
  have hml : c.maxLocals = 15 := hml0
  have hown : s.vm.findClass "com/example/vertumnus/vertumnus/PartitionsLinkPinLaw" = some m.cls := findClass_of_methodNamed Bd.named
  have hnm := (name_of_methodNamed Bd.named Bd.method).1
  have X0 : Stand p l e room_1 s m #[(.int p1), (.int p2), (.int p3), (.int p4), (.int p5), (.int p6)] below meth c s₁ [] 0 0 := Stand.of_body Bd
  have e0 : s₁.heap = h0 := by rw [← hh, Bd.state]; rfl
  have N0 := Fr.nil n0
  have pre0 : ∀ t, Steps p.tables e below (s₁.setTop (mkF m 0 #[.val (.int p1), .val (.int p2), .val (.int p3), .val (.int p4), .val (.int p5), .val (.int p6), .unset, .unset, .unset, .unset, .unset, .unset, .unset, .unset, .unset] [])) t → Steps p.tables e below (s₁.setTop (entryFrame m #[(.int p1), (.int p2), (.int p3), (.int p4), (.int p5), (.int p6)] maxLocals)) t := fun t k => castTop (ef_0 m p1 p2 p3 p4 p5 p6) k
  have pre1 : ∀ t, Steps p.tables e below (s₁.setTop (mkF m 1 #[.val (.int p1), .val (.int p2), .val (.int p3), .val (.int p4), .val (.int p5), .val (.int p6), .unset, .unset, .unset, .unset, .unset, .unset, .unset, .unset, .unset] [(.int (4 : Int32))])) t → Steps p.tables e below (s₁.setTop (entryFrame m #[(.int p1), (.int p2), (.int p3), (.int p4), (.int p5), (.int p6)] maxLocals)) t := by
    intro t kt
    refine pre0 t ?_
    show Steps p.tables e below (s₁.setTop (mkF m 0 #[.val (.int p1), .val (.int p2), .val (.int p3), .val (.int p4), .val (.int p5), .val (.int p6), .unset, .unset, .unset, .unset, .unset, .unset, .unset, .unset, .unset] [])) _
    refine XS.iconst X0.here hx rfl (hb hby at_0) ?_
    exact kt
  obtain ⟨T2, h2, k2, X2, e2, E2, A2, st2⟩ := newP X0 hx hZ (hw _ (List.mem_of_getElem? (i := 0) rfl)) e0 (g := (mkF m 1 #[.val (.int p1), .val (.int p2), .val (.int p3), .val (.int p4), .val (.int p5), .val (.int p6), .unset, .unset, .unset, .unset, .unset, .unset, .unset, .unset, .unset] [(.int (4 : Int32))])) rfl (hb hby at_1) rfl (by decide) (cap := 4) (by decide) (by decide) (by decide) (by decide)
  obtain ⟨b2, g2⟩ : ∃ z, z = h0.size := ⟨_, rfl⟩
  have g_b2 : n0 ≤ b2 := Nat.le_trans Z0 (Nat.le_of_eq g2.symm)
  have sz_b2 : h0.size ≤ b2 := Nat.le_trans (Keep.refl h0 []).1 (Nat.le_of_eq g2.symm)
  rw [← g2] at A2 st2
  have K2 : Keep h0 h2 [] := (Keep.refl h0 []).ext E2
  have Z2 : n0 ≤ h2.size := Nat.le_trans Z0 E2.1
  have V_b2 : Arv Z h2 b2 k2 .int (4 : Int32) [(.int (0 : Int32)), (.int (0 : Int32)), (.int (0 : Int32)), (.int (0 : Int32))] (.int (0 : Int32)) := (Arv.new A2 (by decide)).pad (pad_rep [] (.int (0 : Int32)) 4)
  have pre2 : ∀ t, Steps p.tables e below (T2.setTop (mkF m 3 #[.val (.int p1), .val (.int p2), .val (.int p3), .val (.int p4), .val (.int p5), .val (.int p6), .unset, .unset, .unset, .unset, .unset, .unset, .unset, .unset, .unset] [(.ref b2)])) t → Steps p.tables e below (s₁.setTop (entryFrame m #[(.int p1), (.int p2), (.int p3), (.int p4), (.int p5), (.int p6)] maxLocals)) t := fun t kt => pre1 t (st2 _ kt)
  have pre3 : ∀ t, Steps p.tables e below (T2.setTop (mkF m 6 #[.val (.int p1), .val (.int p2), .val (.int p3), .val (.int p4), .val (.int p5), .val (.int p6), .unset, .unset, .unset, .unset, .unset, .unset, .unset, .unset, .unset] [(.int (0 : Int32)), (.int (0 : Int32)), (.ref b2), (.ref b2)])) t → Steps p.tables e below (s₁.setTop (entryFrame m #[(.int p1), (.int p2), (.int p3), (.int p4), (.int p5), (.int p6)] maxLocals)) t := by
    intro t kt
    refine pre2 t ?_
    show Steps p.tables e below (T2.setTop (mkF m 3 #[.val (.int p1), .val (.int p2), .val (.int p3), .val (.int p4), .val (.int p5), .val (.int p6), .unset, .unset, .unset, .unset, .unset, .unset, .unset, .unset, .unset] [(.ref b2)])) _
    refine XS.dup X2.here hx rfl (hb hby at_3) rfl rfl ?_
    show Steps p.tables e below (T2.setTop (mkF m 4 #[.val (.int p1), .val (.int p2), .val (.int p3), .val (.int p4), .val (.int p5), .val (.int p6), .unset, .unset, .unset, .unset, .unset, .unset, .unset, .unset, .unset] [(.ref b2), (.ref b2)])) _
    refine XS.iconst X2.here hx rfl (hb hby at_4) ?_
    show Steps p.tables e below (T2.setTop (mkF m 5 #[.val (.int p1), .val (.int p2), .val (.int p3), .val (.int p4), .val (.int p5), .val (.int p6), .unset, .unset, .unset, .unset, .unset, .unset, .unset, .unset, .unset] [(.int (0 : Int32)), (.ref b2), (.ref b2)])) _
    refine XS.iconst X2.here hx rfl (hb hby at_5) ?_
    exact kt
  obtain ⟨cl4, Ar4, q4, S4, M4, H4, G4⟩ := (id V_b2)
  have hin4 : ¬ ((0 : Int32) < 0 ∨ cl4.slots.size ≤ ((0 : Int32)).toNatClampNeg) := inb_of S4 ⟨by decide, by decide⟩
  obtain ⟨T4, h4, X4, e4, W4, st4⟩ := stI X2 hx hZ e2 Ar4 (j := (0 : Int32)) hin4 (g := (mkF m 6 #[.val (.int p1), .val (.int p2), .val (.int p3), .val (.int p4), .val (.int p5), .val (.int p6), .unset, .unset, .unset, .unset, .unset, .unset, .unset, .unset, .unset] [(.int (0 : Int32)), (.int (0 : Int32)), (.ref b2), (.ref b2)])) rfl rfl (hb hby at_6)
  have V_b2_4 := Arv.set Ar4 q4 S4 M4 H4 G4 rfl W4 0 rfl (Nat.le_of_ble_eq_true rfl)
  have N4 := Fr.snoc X4 N0 g_b2
  have K4 : Keep h0 h4 [] := K2.wr W4 (Or.inr sz_b2)
  have Z4 : n0 ≤ h4.size := Nat.le_trans Z2 (Keep.of_wr W4).1
  have V_b2_4' : Arv Z h4 b2 k2 .int (4 : Int32) [(.int (0 : Int32)), (.int (0 : Int32)), (.int (0 : Int32)), (.int (0 : Int32))] (.int (0 : Int32)) := V_b2_4
  have pre4 : ∀ t, Steps p.tables e below (T4.setTop (mkF m 7 #[.val (.int p1), .val (.int p2), .val (.int p3), .val (.int p4), .val (.int p5), .val (.int p6), .unset, .unset, .unset, .unset, .unset, .unset, .unset, .unset, .unset] [(.ref b2)])) t → Steps p.tables e below (s₁.setTop (entryFrame m #[(.int p1), (.int p2), (.int p3), (.int p4), (.int p5), (.int p6)] maxLocals)) t := fun t kt => pre3 t (st4 _ kt)
  have pre6 : ∀ t, Steps p.tables e below (T4.setTop (mkF m 10 #[.val (.int p1), .val (.int p2), .val (.int p3), .val (.int p4), .val (.int p5), .val (.int p6), .unset, .unset, .unset, .unset, .unset, .unset, .unset, .unset, .unset] [(.int (1 : Int32)), (.int (1 : Int32)), (.ref b2), (.ref b2)])) t → Steps p.tables e below (s₁.setTop (entryFrame m #[(.int p1), (.int p2), (.int p3), (.int p4), (.int p5), (.int p6)] maxLocals)) t := by
    intro t kt
    refine pre4 t ?_
    show Steps p.tables e below (T4.setTop (mkF m 7 #[.val (.int p1), .val (.int p2), .val (.int p3), .val (.int p4), .val (.int p5), .val (.int p6), .unset, .unset, .unset, .unset, .unset, .unset, .unset, .unset, .unset] [(.ref b2)])) _
    refine XS.dup X4.here hx rfl (hb hby at_7) rfl rfl ?_
    show Steps p.tables e below (T4.setTop (mkF m 8 #[.val (.int p1), .val (.int p2), .val (.int p3), .val (.int p4), .val (.int p5), .val (.int p6), .unset, .unset, .unset, .unset, .unset, .unset, .unset, .unset, .unset] [(.ref b2), (.ref b2)])) _
    refine XS.iconst X4.here hx rfl (hb hby at_8) ?_
    show Steps p.tables e below (T4.setTop (mkF m 9 #[.val (.int p1), .val (.int p2), .val (.int p3), .val (.int p4), .val (.int p5), .val (.int p6), .unset, .unset, .unset, .unset, .unset, .unset, .unset, .unset, .unset] [(.int (1 : Int32)), (.ref b2), (.ref b2)])) _
    refine XS.iconst X4.here hx rfl (hb hby at_9) ?_
    exact kt
  obtain ⟨cl7, Ar7, q7, S7, M7, H7, G7⟩ := (id V_b2_4')
  have hin7 : ¬ ((1 : Int32) < 0 ∨ cl7.slots.size ≤ ((1 : Int32)).toNatClampNeg) := inb_of S7 ⟨by decide, by decide⟩
  obtain ⟨T7, h7, X7, e7, W7, st7⟩ := stI X4 hx hZ e4 Ar7 (j := (1 : Int32)) hin7 (g := (mkF m 10 #[.val (.int p1), .val (.int p2), .val (.int p3), .val (.int p4), .val (.int p5), .val (.int p6), .unset, .unset, .unset, .unset, .unset, .unset, .unset, .unset, .unset] [(.int (1 : Int32)), (.int (1 : Int32)), (.ref b2), (.ref b2)])) rfl rfl (hb hby at_10)
  have V_b2_7 := Arv.set Ar7 q7 S7 M7 H7 G7 rfl W7 1 rfl (Nat.le_of_ble_eq_true rfl)
  have N7 := Fr.snoc X7 N4 g_b2
  have K7 : Keep h0 h7 [] := K4.wr W7 (Or.inr sz_b2)
  have Z7 : n0 ≤ h7.size := Nat.le_trans Z4 (Keep.of_wr W7).1
  have V_b2_7' : Arv Z h7 b2 k2 .int (4 : Int32) [(.int (0 : Int32)), (.int (1 : Int32)), (.int (0 : Int32)), (.int (0 : Int32))] (.int (0 : Int32)) := V_b2_7
  have pre7 : ∀ t, Steps p.tables e below (T7.setTop (mkF m 11 #[.val (.int p1), .val (.int p2), .val (.int p3), .val (.int p4), .val (.int p5), .val (.int p6), .unset, .unset, .unset, .unset, .unset, .unset, .unset, .unset, .unset] [(.ref b2)])) t → Steps p.tables e below (s₁.setTop (entryFrame m #[(.int p1), (.int p2), (.int p3), (.int p4), (.int p5), (.int p6)] maxLocals)) t := fun t kt => pre6 t (st7 _ kt)
  have pre9 : ∀ t, Steps p.tables e below (T7.setTop (mkF m 14 #[.val (.int p1), .val (.int p2), .val (.int p3), .val (.int p4), .val (.int p5), .val (.int p6), .unset, .unset, .unset, .unset, .unset, .unset, .unset, .unset, .unset] [(.int (2 : Int32)), (.int (2 : Int32)), (.ref b2), (.ref b2)])) t → Steps p.tables e below (s₁.setTop (entryFrame m #[(.int p1), (.int p2), (.int p3), (.int p4), (.int p5), (.int p6)] maxLocals)) t := by
    intro t kt
    refine pre7 t ?_
    show Steps p.tables e below (T7.setTop (mkF m 11 #[.val (.int p1), .val (.int p2), .val (.int p3), .val (.int p4), .val (.int p5), .val (.int p6), .unset, .unset, .unset, .unset, .unset, .unset, .unset, .unset, .unset] [(.ref b2)])) _
    refine XS.dup X7.here hx rfl (hb hby at_11) rfl rfl ?_
    show Steps p.tables e below (T7.setTop (mkF m 12 #[.val (.int p1), .val (.int p2), .val (.int p3), .val (.int p4), .val (.int p5), .val (.int p6), .unset, .unset, .unset, .unset, .unset, .unset, .unset, .unset, .unset] [(.ref b2), (.ref b2)])) _
    refine XS.iconst X7.here hx rfl (hb hby at_12) ?_
    show Steps p.tables e below (T7.setTop (mkF m 13 #[.val (.int p1), .val (.int p2), .val (.int p3), .val (.int p4), .val (.int p5), .val (.int p6), .unset, .unset, .unset, .unset, .unset, .unset, .unset, .unset, .unset] [(.int (2 : Int32)), (.ref b2), (.ref b2)])) _
    refine XS.iconst X7.here hx rfl (hb hby at_13) ?_
    exact kt
  obtain ⟨cl10, Ar10, q10, S10, M10, H10, G10⟩ := (id V_b2_7')
  have hin10 : ¬ ((2 : Int32) < 0 ∨ cl10.slots.size ≤ ((2 : Int32)).toNatClampNeg) := inb_of S10 ⟨by decide, by decide⟩
  obtain ⟨T10, h10, X10, e10, W10, st10⟩ := stI X7 hx hZ e7 Ar10 (j := (2 : Int32)) hin10 (g := (mkF m 14 #[.val (.int p1), .val (.int p2), .val (.int p3), .val (.int p4), .val (.int p5), .val (.int p6), .unset, .unset, .unset, .unset, .unset, .unset, .unset, .unset, .unset] [(.int (2 : Int32)), (.int (2 : Int32)), (.ref b2), (.ref b2)])) rfl rfl (hb hby at_14)
  have V_b2_10 := Arv.set Ar10 q10 S10 M10 H10 G10 rfl W10 2 rfl (Nat.le_of_ble_eq_true rfl)
  have N10 := Fr.snoc X10 N7 g_b2
  have K10 : Keep h0 h10 [] := K7.wr W10 (Or.inr sz_b2)
  have Z10 : n0 ≤ h10.size := Nat.le_trans Z7 (Keep.of_wr W10).1
  have V_b2_10' : Arv Z h10 b2 k2 .int (4 : Int32) [(.int (0 : Int32)), (.int (1 : Int32)), (.int (2 : Int32)), (.int (0 : Int32))] (.int (0 : Int32)) := V_b2_10
  have pre10 : ∀ t, Steps p.tables e below (T10.setTop (mkF m 15 #[.val (.int p1), .val (.int p2), .val (.int p3), .val (.int p4), .val (.int p5), .val (.int p6), .unset, .unset, .unset, .unset, .unset, .unset, .unset, .unset, .unset] [(.ref b2)])) t → Steps p.tables e below (s₁.setTop (entryFrame m #[(.int p1), (.int p2), (.int p3), (.int p4), (.int p5), (.int p6)] maxLocals)) t := fun t kt => pre9 t (st10 _ kt)
  have pre12 : ∀ t, Steps p.tables e below (T10.setTop (mkF m 18 #[.val (.int p1), .val (.int p2), .val (.int p3), .val (.int p4), .val (.int p5), .val (.int p6), .unset, .unset, .unset, .unset, .unset, .unset, .unset, .unset, .unset] [(.int (3 : Int32)), (.int (3 : Int32)), (.ref b2), (.ref b2)])) t → Steps p.tables e below (s₁.setTop (entryFrame m #[(.int p1), (.int p2), (.int p3), (.int p4), (.int p5), (.int p6)] maxLocals)) t := by
    intro t kt
    refine pre10 t ?_
    show Steps p.tables e below (T10.setTop (mkF m 15 #[.val (.int p1), .val (.int p2), .val (.int p3), .val (.int p4), .val (.int p5), .val (.int p6), .unset, .unset, .unset, .unset, .unset, .unset, .unset, .unset, .unset] [(.ref b2)])) _
    refine XS.dup X10.here hx rfl (hb hby at_15) rfl rfl ?_
    show Steps p.tables e below (T10.setTop (mkF m 16 #[.val (.int p1), .val (.int p2), .val (.int p3), .val (.int p4), .val (.int p5), .val (.int p6), .unset, .unset, .unset, .unset, .unset, .unset, .unset, .unset, .unset] [(.ref b2), (.ref b2)])) _
    refine XS.iconst X10.here hx rfl (hb hby at_16) ?_
    show Steps p.tables e below (T10.setTop (mkF m 17 #[.val (.int p1), .val (.int p2), .val (.int p3), .val (.int p4), .val (.int p5), .val (.int p6), .unset, .unset, .unset, .unset, .unset, .unset, .unset, .unset, .unset] [(.int (3 : Int32)), (.ref b2), (.ref b2)])) _
    refine XS.iconst X10.here hx rfl (hb hby at_17) ?_
    exact kt
  obtain ⟨cl13, Ar13, q13, S13, M13, H13, G13⟩ := (id V_b2_10')
  have hin13 : ¬ ((3 : Int32) < 0 ∨ cl13.slots.size ≤ ((3 : Int32)).toNatClampNeg) := inb_of S13 ⟨by decide, by decide⟩
  obtain ⟨T13, h13, X13, e13, W13, st13⟩ := stI X10 hx hZ e10 Ar13 (j := (3 : Int32)) hin13 (g := (mkF m 18 #[.val (.int p1), .val (.int p2), .val (.int p3), .val (.int p4), .val (.int p5), .val (.int p6), .unset, .unset, .unset, .unset, .unset, .unset, .unset, .unset, .unset] [(.int (3 : Int32)), (.int (3 : Int32)), (.ref b2), (.ref b2)])) rfl rfl (hb hby at_18)
  have V_b2_13 := Arv.set Ar13 q13 S13 M13 H13 G13 rfl W13 3 rfl (Nat.le_of_ble_eq_true rfl)
  have N13 := Fr.snoc X13 N10 g_b2
  have K13 : Keep h0 h13 [] := K10.wr W13 (Or.inr sz_b2)
  have Z13 : n0 ≤ h13.size := Nat.le_trans Z10 (Keep.of_wr W13).1
  have V_b2_13' : Arv Z h13 b2 k2 .int (4 : Int32) [(.int (0 : Int32)), (.int (1 : Int32)), (.int (2 : Int32)), (.int (3 : Int32))] (.int (0 : Int32)) := V_b2_13
  have pre13 : ∀ t, Steps p.tables e below (T13.setTop (mkF m 19 #[.val (.int p1), .val (.int p2), .val (.int p3), .val (.int p4), .val (.int p5), .val (.int p6), .unset, .unset, .unset, .unset, .unset, .unset, .unset, .unset, .unset] [(.ref b2)])) t → Steps p.tables e below (s₁.setTop (entryFrame m #[(.int p1), (.int p2), (.int p3), (.int p4), (.int p5), (.int p6)] maxLocals)) t := fun t kt => pre12 t (st13 _ kt)
  have VL : Arv Z h13 b2 k2 .int (4 : Int32) (own_l (fun i => i)) (.int (0 : Int32)) := V_b2_13'
  have pre15 : ∀ t, Steps p.tables e below (T13.setTop (mkF m 22 #[.val (.int p1), .val (.int p2), .val (.int p3), .val (.int p4), .val (.int p5), .val (.int p6), .val (.ref b2), .unset, .unset, .unset, .unset, .unset, .unset, .unset, .unset] [(.int (1 : Int32))])) t → Steps p.tables e below (s₁.setTop (entryFrame m #[(.int p1), (.int p2), (.int p3), (.int p4), (.int p5), (.int p6)] maxLocals)) t := by
    intro t kt
    refine pre13 t ?_
    show Steps p.tables e below (T13.setTop (mkF m 19 #[.val (.int p1), .val (.int p2), .val (.int p3), .val (.int p4), .val (.int p5), .val (.int p6), .unset, .unset, .unset, .unset, .unset, .unset, .unset, .unset, .unset] [(.ref b2)])) _
    refine XS.astore X13.here hx rfl (hb hby at_19) rfl rfl (l' := #[.val (.int p1), .val (.int p2), .val (.int p3), .val (.int p4), .val (.int p5), .val (.int p6), .val (.ref b2), .unset, .unset, .unset, .unset, .unset, .unset, .unset, .unset]) rfl ?_
    show Steps p.tables e below (T13.setTop (mkF m 21 #[.val (.int p1), .val (.int p2), .val (.int p3), .val (.int p4), .val (.int p5), .val (.int p6), .val (.ref b2), .unset, .unset, .unset, .unset, .unset, .unset, .unset, .unset] [])) _
    refine XS.iconst X13.here hx rfl (hb hby at_21) ?_
    exact kt
  obtain ⟨T16, h16, k16, X16, e16, E16, A16, st16⟩ := newP X13 hx hZ (hw _ (List.mem_of_getElem? (i := 0) rfl)) e13 (g := (mkF m 22 #[.val (.int p1), .val (.int p2), .val (.int p3), .val (.int p4), .val (.int p5), .val (.int p6), .val (.ref b2), .unset, .unset, .unset, .unset, .unset, .unset, .unset, .unset] [(.int (1 : Int32))])) rfl (hb hby at_22) rfl (by decide) (cap := 1) (by decide) (by decide) (by decide) (by decide)
  obtain ⟨b16, g16⟩ : ∃ z, z = h13.size := ⟨_, rfl⟩
  have ne_b2_b16 : b2 ≠ b16 := Nat.ne_of_lt (Nat.lt_of_lt_of_le VL.lt (Nat.le_of_eq g16.symm))
  have g_b16 : n0 ≤ b16 := Nat.le_trans Z13 (Nat.le_of_eq g16.symm)
  have sz_b16 : h0.size ≤ b16 := Nat.le_trans K13.1 (Nat.le_of_eq g16.symm)
  rw [← g16] at A16 st16
  have K16 : Keep h0 h16 [] := K13.ext E16
  have Z16 : n0 ≤ h16.size := Nat.le_trans Z13 E16.1
  have VL_17 := VL.ext E16
  have V_b16 : Arv Z h16 b16 k16 .int (1 : Int32) [(.int (0 : Int32))] (.int (0 : Int32)) := (Arv.new A16 (by decide)).pad (pad_rep [] (.int (0 : Int32)) 1)
  have pre16 : ∀ t, Steps p.tables e below (T16.setTop (mkF m 24 #[.val (.int p1), .val (.int p2), .val (.int p3), .val (.int p4), .val (.int p5), .val (.int p6), .val (.ref b2), .unset, .unset, .unset, .unset, .unset, .unset, .unset, .unset] [(.ref b16)])) t → Steps p.tables e below (s₁.setTop (entryFrame m #[(.int p1), (.int p2), (.int p3), (.int p4), (.int p5), (.int p6)] maxLocals)) t := fun t kt => pre15 t (st16 _ kt)
  have pre18 : ∀ t, Steps p.tables e below (T16.setTop (mkF m 27 #[.val (.int p1), .val (.int p2), .val (.int p3), .val (.int p4), .val (.int p5), .val (.int p6), .val (.ref b2), .unset, .unset, .unset, .unset, .unset, .unset, .unset, .unset] [(.int (4 : Int32)), (.int (0 : Int32)), (.ref b16), (.ref b16)])) t → Steps p.tables e below (s₁.setTop (entryFrame m #[(.int p1), (.int p2), (.int p3), (.int p4), (.int p5), (.int p6)] maxLocals)) t := by
    intro t kt
    refine pre16 t ?_
    show Steps p.tables e below (T16.setTop (mkF m 24 #[.val (.int p1), .val (.int p2), .val (.int p3), .val (.int p4), .val (.int p5), .val (.int p6), .val (.ref b2), .unset, .unset, .unset, .unset, .unset, .unset, .unset, .unset] [(.ref b16)])) _
    refine XS.dup X16.here hx rfl (hb hby at_24) rfl rfl ?_
    show Steps p.tables e below (T16.setTop (mkF m 25 #[.val (.int p1), .val (.int p2), .val (.int p3), .val (.int p4), .val (.int p5), .val (.int p6), .val (.ref b2), .unset, .unset, .unset, .unset, .unset, .unset, .unset, .unset] [(.ref b16), (.ref b16)])) _
    refine XS.iconst X16.here hx rfl (hb hby at_25) ?_
    show Steps p.tables e below (T16.setTop (mkF m 26 #[.val (.int p1), .val (.int p2), .val (.int p3), .val (.int p4), .val (.int p5), .val (.int p6), .val (.ref b2), .unset, .unset, .unset, .unset, .unset, .unset, .unset, .unset] [(.int (0 : Int32)), (.ref b16), (.ref b16)])) _
    refine XS.iconst X16.here hx rfl (hb hby at_26) ?_
    exact kt
  obtain ⟨cl19, Ar19, q19, S19, M19, H19, G19⟩ := (id V_b16)
  have hin19 : ¬ ((0 : Int32) < 0 ∨ cl19.slots.size ≤ ((0 : Int32)).toNatClampNeg) := inb_of S19 ⟨by decide, by decide⟩
  obtain ⟨T19, h19, X19, e19, W19, st19⟩ := stI X16 hx hZ e16 Ar19 (j := (0 : Int32)) hin19 (g := (mkF m 27 #[.val (.int p1), .val (.int p2), .val (.int p3), .val (.int p4), .val (.int p5), .val (.int p6), .val (.ref b2), .unset, .unset, .unset, .unset, .unset, .unset, .unset, .unset] [(.int (4 : Int32)), (.int (0 : Int32)), (.ref b16), (.ref b16)])) rfl rfl (hb hby at_27)
  have V_b16_19 := Arv.set Ar19 q19 S19 M19 H19 G19 rfl W19 0 rfl (Nat.le_of_ble_eq_true rfl)
  have N19 := Fr.snoc X19 N13 g_b16
  have K19 : Keep h0 h19 [] := K16.wr W19 (Or.inr sz_b16)
  have Z19 : n0 ≤ h19.size := Nat.le_trans Z16 (Keep.of_wr W19).1
  have VL_20 := VL_17.other W19 ne_b2_b16
  have V_b16_19' : Arv Z h19 b16 k16 .int (1 : Int32) [(.int (4 : Int32))] (.int (0 : Int32)) := V_b16_19
  have pre19 : ∀ t, Steps p.tables e below (T19.setTop (mkF m 28 #[.val (.int p1), .val (.int p2), .val (.int p3), .val (.int p4), .val (.int p5), .val (.int p6), .val (.ref b2), .unset, .unset, .unset, .unset, .unset, .unset, .unset, .unset] [(.ref b16)])) t → Steps p.tables e below (s₁.setTop (entryFrame m #[(.int p1), (.int p2), (.int p3), (.int p4), (.int p5), (.int p6)] maxLocals)) t := fun t kt => pre18 t (st19 _ kt)
  have pre22 : ∀ t, Steps p.tables e below (T19.setTop (mkF m 62 #[.val (.int p1), .val (.int p2), .val (.int p3), .val (.int p4), .val (.int p5), .val (.int p6), .val (.ref b2), .val (.ref b16), .val (.int (p1 &&& (3 : Int32))), .val (.int (p2 &&& (3 : Int32))), .val (.int (p3 &&& (3 : Int32))), .val (.int (p4 &&& (3 : Int32))), .val (.int (p5 &&& (3 : Int32))), .val (.int (p6 &&& (3 : Int32))), .unset] [])) t → Steps p.tables e below (s₁.setTop (entryFrame m #[(.int p1), (.int p2), (.int p3), (.int p4), (.int p5), (.int p6)] maxLocals)) t := by
    intro t kt
    refine pre19 t ?_
    show Steps p.tables e below (T19.setTop (mkF m 28 #[.val (.int p1), .val (.int p2), .val (.int p3), .val (.int p4), .val (.int p5), .val (.int p6), .val (.ref b2), .unset, .unset, .unset, .unset, .unset, .unset, .unset, .unset] [(.ref b16)])) _
    refine XS.astore X19.here hx rfl (hb hby at_28) rfl rfl (l' := #[.val (.int p1), .val (.int p2), .val (.int p3), .val (.int p4), .val (.int p5), .val (.int p6), .val (.ref b2), .val (.ref b16), .unset, .unset, .unset, .unset, .unset, .unset, .unset]) rfl ?_
    show Steps p.tables e below (T19.setTop (mkF m 30 #[.val (.int p1), .val (.int p2), .val (.int p3), .val (.int p4), .val (.int p5), .val (.int p6), .val (.ref b2), .val (.ref b16), .unset, .unset, .unset, .unset, .unset, .unset, .unset] [])) _
    refine XS.iloadN X19.here hx rfl (hb hby at_30) rfl ?_
    show Steps p.tables e below (T19.setTop (mkF m 31 #[.val (.int p1), .val (.int p2), .val (.int p3), .val (.int p4), .val (.int p5), .val (.int p6), .val (.ref b2), .val (.ref b16), .unset, .unset, .unset, .unset, .unset, .unset, .unset] [(.int p1)])) _
    refine XS.iconst X19.here hx rfl (hb hby at_31) ?_
    show Steps p.tables e below (T19.setTop (mkF m 32 #[.val (.int p1), .val (.int p2), .val (.int p3), .val (.int p4), .val (.int p5), .val (.int p6), .val (.ref b2), .val (.ref b16), .unset, .unset, .unset, .unset, .unset, .unset, .unset] [(.int (3 : Int32)), (.int p1)])) _
    refine XS.iand X19.here hx rfl (hb hby at_32) rfl ?_
    show Steps p.tables e below (T19.setTop (mkF m 33 #[.val (.int p1), .val (.int p2), .val (.int p3), .val (.int p4), .val (.int p5), .val (.int p6), .val (.ref b2), .val (.ref b16), .unset, .unset, .unset, .unset, .unset, .unset, .unset] [(.int (p1 &&& (3 : Int32)))])) _
    refine XS.istore X19.here hx rfl (hb hby at_33) rfl (l' := #[.val (.int p1), .val (.int p2), .val (.int p3), .val (.int p4), .val (.int p5), .val (.int p6), .val (.ref b2), .val (.ref b16), .val (.int (p1 &&& (3 : Int32))), .unset, .unset, .unset, .unset, .unset, .unset]) rfl ?_
    show Steps p.tables e below (T19.setTop (mkF m 35 #[.val (.int p1), .val (.int p2), .val (.int p3), .val (.int p4), .val (.int p5), .val (.int p6), .val (.ref b2), .val (.ref b16), .val (.int (p1 &&& (3 : Int32))), .unset, .unset, .unset, .unset, .unset, .unset] [])) _
    refine XS.iloadN X19.here hx rfl (hb hby at_35) rfl ?_
    show Steps p.tables e below (T19.setTop (mkF m 36 #[.val (.int p1), .val (.int p2), .val (.int p3), .val (.int p4), .val (.int p5), .val (.int p6), .val (.ref b2), .val (.ref b16), .val (.int (p1 &&& (3 : Int32))), .unset, .unset, .unset, .unset, .unset, .unset] [(.int p2)])) _
    refine XS.iconst X19.here hx rfl (hb hby at_36) ?_
    show Steps p.tables e below (T19.setTop (mkF m 37 #[.val (.int p1), .val (.int p2), .val (.int p3), .val (.int p4), .val (.int p5), .val (.int p6), .val (.ref b2), .val (.ref b16), .val (.int (p1 &&& (3 : Int32))), .unset, .unset, .unset, .unset, .unset, .unset] [(.int (3 : Int32)), (.int p2)])) _
    refine XS.iand X19.here hx rfl (hb hby at_37) rfl ?_
    show Steps p.tables e below (T19.setTop (mkF m 38 #[.val (.int p1), .val (.int p2), .val (.int p3), .val (.int p4), .val (.int p5), .val (.int p6), .val (.ref b2), .val (.ref b16), .val (.int (p1 &&& (3 : Int32))), .unset, .unset, .unset, .unset, .unset, .unset] [(.int (p2 &&& (3 : Int32)))])) _
    refine XS.istore X19.here hx rfl (hb hby at_38) rfl (l' := #[.val (.int p1), .val (.int p2), .val (.int p3), .val (.int p4), .val (.int p5), .val (.int p6), .val (.ref b2), .val (.ref b16), .val (.int (p1 &&& (3 : Int32))), .val (.int (p2 &&& (3 : Int32))), .unset, .unset, .unset, .unset, .unset]) rfl ?_
    show Steps p.tables e below (T19.setTop (mkF m 40 #[.val (.int p1), .val (.int p2), .val (.int p3), .val (.int p4), .val (.int p5), .val (.int p6), .val (.ref b2), .val (.ref b16), .val (.int (p1 &&& (3 : Int32))), .val (.int (p2 &&& (3 : Int32))), .unset, .unset, .unset, .unset, .unset] [])) _
    refine XS.iloadN X19.here hx rfl (hb hby at_40) rfl ?_
    show Steps p.tables e below (T19.setTop (mkF m 41 #[.val (.int p1), .val (.int p2), .val (.int p3), .val (.int p4), .val (.int p5), .val (.int p6), .val (.ref b2), .val (.ref b16), .val (.int (p1 &&& (3 : Int32))), .val (.int (p2 &&& (3 : Int32))), .unset, .unset, .unset, .unset, .unset] [(.int p3)])) _
    refine XS.iconst X19.here hx rfl (hb hby at_41) ?_
    show Steps p.tables e below (T19.setTop (mkF m 42 #[.val (.int p1), .val (.int p2), .val (.int p3), .val (.int p4), .val (.int p5), .val (.int p6), .val (.ref b2), .val (.ref b16), .val (.int (p1 &&& (3 : Int32))), .val (.int (p2 &&& (3 : Int32))), .unset, .unset, .unset, .unset, .unset] [(.int (3 : Int32)), (.int p3)])) _
    refine XS.iand X19.here hx rfl (hb hby at_42) rfl ?_
    show Steps p.tables e below (T19.setTop (mkF m 43 #[.val (.int p1), .val (.int p2), .val (.int p3), .val (.int p4), .val (.int p5), .val (.int p6), .val (.ref b2), .val (.ref b16), .val (.int (p1 &&& (3 : Int32))), .val (.int (p2 &&& (3 : Int32))), .unset, .unset, .unset, .unset, .unset] [(.int (p3 &&& (3 : Int32)))])) _
    refine XS.istore X19.here hx rfl (hb hby at_43) rfl (l' := #[.val (.int p1), .val (.int p2), .val (.int p3), .val (.int p4), .val (.int p5), .val (.int p6), .val (.ref b2), .val (.ref b16), .val (.int (p1 &&& (3 : Int32))), .val (.int (p2 &&& (3 : Int32))), .val (.int (p3 &&& (3 : Int32))), .unset, .unset, .unset, .unset]) rfl ?_
    show Steps p.tables e below (T19.setTop (mkF m 45 #[.val (.int p1), .val (.int p2), .val (.int p3), .val (.int p4), .val (.int p5), .val (.int p6), .val (.ref b2), .val (.ref b16), .val (.int (p1 &&& (3 : Int32))), .val (.int (p2 &&& (3 : Int32))), .val (.int (p3 &&& (3 : Int32))), .unset, .unset, .unset, .unset] [])) _
    refine XS.iloadN X19.here hx rfl (hb hby at_45) rfl ?_
    show Steps p.tables e below (T19.setTop (mkF m 46 #[.val (.int p1), .val (.int p2), .val (.int p3), .val (.int p4), .val (.int p5), .val (.int p6), .val (.ref b2), .val (.ref b16), .val (.int (p1 &&& (3 : Int32))), .val (.int (p2 &&& (3 : Int32))), .val (.int (p3 &&& (3 : Int32))), .unset, .unset, .unset, .unset] [(.int p4)])) _
    refine XS.iconst X19.here hx rfl (hb hby at_46) ?_
    show Steps p.tables e below (T19.setTop (mkF m 47 #[.val (.int p1), .val (.int p2), .val (.int p3), .val (.int p4), .val (.int p5), .val (.int p6), .val (.ref b2), .val (.ref b16), .val (.int (p1 &&& (3 : Int32))), .val (.int (p2 &&& (3 : Int32))), .val (.int (p3 &&& (3 : Int32))), .unset, .unset, .unset, .unset] [(.int (3 : Int32)), (.int p4)])) _
    refine XS.iand X19.here hx rfl (hb hby at_47) rfl ?_
    show Steps p.tables e below (T19.setTop (mkF m 48 #[.val (.int p1), .val (.int p2), .val (.int p3), .val (.int p4), .val (.int p5), .val (.int p6), .val (.ref b2), .val (.ref b16), .val (.int (p1 &&& (3 : Int32))), .val (.int (p2 &&& (3 : Int32))), .val (.int (p3 &&& (3 : Int32))), .unset, .unset, .unset, .unset] [(.int (p4 &&& (3 : Int32)))])) _
    refine XS.istore X19.here hx rfl (hb hby at_48) rfl (l' := #[.val (.int p1), .val (.int p2), .val (.int p3), .val (.int p4), .val (.int p5), .val (.int p6), .val (.ref b2), .val (.ref b16), .val (.int (p1 &&& (3 : Int32))), .val (.int (p2 &&& (3 : Int32))), .val (.int (p3 &&& (3 : Int32))), .val (.int (p4 &&& (3 : Int32))), .unset, .unset, .unset]) rfl ?_
    show Steps p.tables e below (T19.setTop (mkF m 50 #[.val (.int p1), .val (.int p2), .val (.int p3), .val (.int p4), .val (.int p5), .val (.int p6), .val (.ref b2), .val (.ref b16), .val (.int (p1 &&& (3 : Int32))), .val (.int (p2 &&& (3 : Int32))), .val (.int (p3 &&& (3 : Int32))), .val (.int (p4 &&& (3 : Int32))), .unset, .unset, .unset] [])) _
    refine XS.iload X19.here hx rfl (hb hby at_50) rfl ?_
    show Steps p.tables e below (T19.setTop (mkF m 52 #[.val (.int p1), .val (.int p2), .val (.int p3), .val (.int p4), .val (.int p5), .val (.int p6), .val (.ref b2), .val (.ref b16), .val (.int (p1 &&& (3 : Int32))), .val (.int (p2 &&& (3 : Int32))), .val (.int (p3 &&& (3 : Int32))), .val (.int (p4 &&& (3 : Int32))), .unset, .unset, .unset] [(.int p5)])) _
    refine XS.iconst X19.here hx rfl (hb hby at_52) ?_
    show Steps p.tables e below (T19.setTop (mkF m 53 #[.val (.int p1), .val (.int p2), .val (.int p3), .val (.int p4), .val (.int p5), .val (.int p6), .val (.ref b2), .val (.ref b16), .val (.int (p1 &&& (3 : Int32))), .val (.int (p2 &&& (3 : Int32))), .val (.int (p3 &&& (3 : Int32))), .val (.int (p4 &&& (3 : Int32))), .unset, .unset, .unset] [(.int (3 : Int32)), (.int p5)])) _
    refine XS.iand X19.here hx rfl (hb hby at_53) rfl ?_
    show Steps p.tables e below (T19.setTop (mkF m 54 #[.val (.int p1), .val (.int p2), .val (.int p3), .val (.int p4), .val (.int p5), .val (.int p6), .val (.ref b2), .val (.ref b16), .val (.int (p1 &&& (3 : Int32))), .val (.int (p2 &&& (3 : Int32))), .val (.int (p3 &&& (3 : Int32))), .val (.int (p4 &&& (3 : Int32))), .unset, .unset, .unset] [(.int (p5 &&& (3 : Int32)))])) _
    refine XS.istore X19.here hx rfl (hb hby at_54) rfl (l' := #[.val (.int p1), .val (.int p2), .val (.int p3), .val (.int p4), .val (.int p5), .val (.int p6), .val (.ref b2), .val (.ref b16), .val (.int (p1 &&& (3 : Int32))), .val (.int (p2 &&& (3 : Int32))), .val (.int (p3 &&& (3 : Int32))), .val (.int (p4 &&& (3 : Int32))), .val (.int (p5 &&& (3 : Int32))), .unset, .unset]) rfl ?_
    show Steps p.tables e below (T19.setTop (mkF m 56 #[.val (.int p1), .val (.int p2), .val (.int p3), .val (.int p4), .val (.int p5), .val (.int p6), .val (.ref b2), .val (.ref b16), .val (.int (p1 &&& (3 : Int32))), .val (.int (p2 &&& (3 : Int32))), .val (.int (p3 &&& (3 : Int32))), .val (.int (p4 &&& (3 : Int32))), .val (.int (p5 &&& (3 : Int32))), .unset, .unset] [])) _
    refine XS.iload X19.here hx rfl (hb hby at_56) rfl ?_
    show Steps p.tables e below (T19.setTop (mkF m 58 #[.val (.int p1), .val (.int p2), .val (.int p3), .val (.int p4), .val (.int p5), .val (.int p6), .val (.ref b2), .val (.ref b16), .val (.int (p1 &&& (3 : Int32))), .val (.int (p2 &&& (3 : Int32))), .val (.int (p3 &&& (3 : Int32))), .val (.int (p4 &&& (3 : Int32))), .val (.int (p5 &&& (3 : Int32))), .unset, .unset] [(.int p6)])) _
    refine XS.iconst X19.here hx rfl (hb hby at_58) ?_
    show Steps p.tables e below (T19.setTop (mkF m 59 #[.val (.int p1), .val (.int p2), .val (.int p3), .val (.int p4), .val (.int p5), .val (.int p6), .val (.ref b2), .val (.ref b16), .val (.int (p1 &&& (3 : Int32))), .val (.int (p2 &&& (3 : Int32))), .val (.int (p3 &&& (3 : Int32))), .val (.int (p4 &&& (3 : Int32))), .val (.int (p5 &&& (3 : Int32))), .unset, .unset] [(.int (3 : Int32)), (.int p6)])) _
    refine XS.iand X19.here hx rfl (hb hby at_59) rfl ?_
    show Steps p.tables e below (T19.setTop (mkF m 60 #[.val (.int p1), .val (.int p2), .val (.int p3), .val (.int p4), .val (.int p5), .val (.int p6), .val (.ref b2), .val (.ref b16), .val (.int (p1 &&& (3 : Int32))), .val (.int (p2 &&& (3 : Int32))), .val (.int (p3 &&& (3 : Int32))), .val (.int (p4 &&& (3 : Int32))), .val (.int (p5 &&& (3 : Int32))), .unset, .unset] [(.int (p6 &&& (3 : Int32)))])) _
    refine XS.istore X19.here hx rfl (hb hby at_60) rfl (l' := #[.val (.int p1), .val (.int p2), .val (.int p3), .val (.int p4), .val (.int p5), .val (.int p6), .val (.ref b2), .val (.ref b16), .val (.int (p1 &&& (3 : Int32))), .val (.int (p2 &&& (3 : Int32))), .val (.int (p3 &&& (3 : Int32))), .val (.int (p4 &&& (3 : Int32))), .val (.int (p5 &&& (3 : Int32))), .val (.int (p6 &&& (3 : Int32))), .unset]) rfl ?_
    exact kt
  obtain ⟨i0, hi0, ei0⟩ := own_nat p1
  rw [ei0] at pre22
  obtain ⟨i1, hi1, ei1⟩ := own_nat p2
  rw [ei1] at pre22
  obtain ⟨i2, hi2, ei2⟩ := own_nat p3
  rw [ei2] at pre22
  obtain ⟨i3, hi3, ei3⟩ := own_nat p4
  rw [ei3] at pre22
  obtain ⟨i4, hi4, ei4⟩ := own_nat p5
  rw [ei4] at pre22
  obtain ⟨i5, hi5, ei5⟩ := own_nat p6
  rw [ei5] at pre22
  obtain ⟨T23, h23, X23, e23, E23, A23, D23, -, st23⟩ := newO X19 hx hZ hown (hw _ (List.mem_of_getElem? (i := 1) rfl)) (hw _ (List.mem_of_getElem? (i := 2) rfl)) (hw _ (List.mem_of_getElem? (i := 3) rfl)) e19 (g := (mkF m 62 #[.val (.int p1), .val (.int p2), .val (.int p3), .val (.int p4), .val (.int p5), .val (.int p6), .val (.ref b2), .val (.ref b16), .val (.int (Int32.ofNat i0)), .val (.int (Int32.ofNat i1)), .val (.int (Int32.ofNat i2)), .val (.int (Int32.ofNat i3)), .val (.int (Int32.ofNat i4)), .val (.int (Int32.ofNat i5)), .unset] [])) rfl (hb hby at_62) (by decide) (by decide)
  obtain ⟨b23, g23⟩ : ∃ z, z = h19.size := ⟨_, rfl⟩
  have ne_b2_b23 : b2 ≠ b23 := Nat.ne_of_lt (Nat.lt_of_lt_of_le VL_20.lt (Nat.le_of_eq g23.symm))
  have ne_b16_b23 : b16 ≠ b23 := Nat.ne_of_lt (Nat.lt_of_lt_of_le V_b16_19'.lt (Nat.le_of_eq g23.symm))
  have g_b23 : n0 ≤ b23 := Nat.le_trans Z19 (Nat.le_of_eq g23.symm)
  have sz_b23 : h0.size ≤ b23 := Nat.le_trans K19.1 (Nat.le_of_eq g23.symm)
  rw [← g23] at A23 D23 st23
  have K23 : Keep h0 h23 [] := K19.ext E23
  have Z23 : n0 ≤ h23.size := Nat.le_trans Z19 E23.1
  have VL_24 := VL_20.ext E23
  have V_b16_25 := V_b16_19'.ext E23
  have F_parents_b23 : Fld Z h23 b23 "com/example/vertumnus/vertumnus/Partitions" "parents" "[I" .null := D23 (Or.inr (hw _ (List.mem_of_getElem? (i := 11) rfl))) (ty := (.array .int)) (by decide)
  have F_count_b23 : Fld Z h23 b23 "com/example/vertumnus/vertumnus/Partitions" "count" "I" (.int (0 : Int32)) := D23 (Or.inl (hw _ (List.mem_of_getElem? (i := 13) rfl))) (ty := .int) (by decide)
  have pre23 : ∀ t, Steps p.tables e below (T23.setTop (mkF m 65 #[.val (.int p1), .val (.int p2), .val (.int p3), .val (.int p4), .val (.int p5), .val (.int p6), .val (.ref b2), .val (.ref b16), .val (.int (Int32.ofNat i0)), .val (.int (Int32.ofNat i1)), .val (.int (Int32.ofNat i2)), .val (.int (Int32.ofNat i3)), .val (.int (Int32.ofNat i4)), .val (.int (Int32.ofNat i5)), .unset] [(.ref b23)])) t → Steps p.tables e below (s₁.setTop (entryFrame m #[(.int p1), (.int p2), (.int p3), (.int p4), (.int p5), (.int p6)] maxLocals)) t := fun t kt => pre22 t (st23 _ kt)
  have pre26 : ∀ t, Steps p.tables e below (T23.setTop (mkF m 67 #[.val (.int p1), .val (.int p2), .val (.int p3), .val (.int p4), .val (.int p5), .val (.int p6), .val (.ref b2), .val (.ref b16), .val (.int (Int32.ofNat i0)), .val (.int (Int32.ofNat i1)), .val (.int (Int32.ofNat i2)), .val (.int (Int32.ofNat i3)), .val (.int (Int32.ofNat i4)), .val (.int (Int32.ofNat i5)), .unset] [(.int (4 : Int32)), (.ref b23), (.ref b23)])) t → Steps p.tables e below (s₁.setTop (entryFrame m #[(.int p1), (.int p2), (.int p3), (.int p4), (.int p5), (.int p6)] maxLocals)) t := by
    intro t kt
    refine pre23 t ?_
    show Steps p.tables e below (T23.setTop (mkF m 65 #[.val (.int p1), .val (.int p2), .val (.int p3), .val (.int p4), .val (.int p5), .val (.int p6), .val (.ref b2), .val (.ref b16), .val (.int (Int32.ofNat i0)), .val (.int (Int32.ofNat i1)), .val (.int (Int32.ofNat i2)), .val (.int (Int32.ofNat i3)), .val (.int (Int32.ofNat i4)), .val (.int (Int32.ofNat i5)), .unset] [(.ref b23)])) _
    refine XS.dup X23.here hx rfl (hb hby at_65) rfl rfl ?_
    show Steps p.tables e below (T23.setTop (mkF m 66 #[.val (.int p1), .val (.int p2), .val (.int p3), .val (.int p4), .val (.int p5), .val (.int p6), .val (.ref b2), .val (.ref b16), .val (.int (Int32.ofNat i0)), .val (.int (Int32.ofNat i1)), .val (.int (Int32.ofNat i2)), .val (.int (Int32.ofNat i3)), .val (.int (Int32.ofNat i4)), .val (.int (Int32.ofNat i5)), .unset] [(.ref b23), (.ref b23)])) _
    refine XS.iconst X23.here hx rfl (hb hby at_66) ?_
    exact kt
  obtain ⟨_, _, ⟨T27, L27, k27, n27⟩, -, X27, ⟨Lc27, hQ27, l27, y27, z27⟩, st27⟩ := X23.specialBack hx (y := (⟨"com/example/vertumnus/vertumnus/Partitions", "<init>", "(I)V"⟩ : MethodName)) rfl hown (mvT hZ (hw _ (List.mem_of_getElem? (i := 4) rfl))) (mvT hZ (hw _ (List.mem_of_getElem? (i := 5) rfl))) (mvT hZ (hw _ (List.mem_of_getElem? (i := 6) rfl))) (by decide) (backOf (W := 1) (rm1 l Z a0 hw [] b23 (4 : Int32) h23 n0 Z23 A23 F_parents_b23 F_count_b23 g_b23 (rfl)) hZ (hw _ (List.mem_of_getElem? (i := 6) rfl)) (hw _ (List.mem_of_getElem? (i := 3) rfl)) (by decide) (by decide)) (g := (mkF m 67 #[.val (.int p1), .val (.int p2), .val (.int p3), .val (.int p4), .val (.int p5), .val (.int p6), .val (.ref b2), .val (.ref b16), .val (.int (Int32.ofNat i0)), .val (.int (Int32.ofNat i1)), .val (.int (Int32.ofNat i2)), .val (.int (Int32.ofNat i3)), .val (.int (Int32.ofNat i4)), .val (.int (Int32.ofNat i5)), .unset] [(.int (4 : Int32)), (.ref b23), (.ref b23)])) rfl (by rw [hml]; rfl) (Steps.refl _) (a := b23) (argsL := [(.int (4 : Int32))]) (rest := [(.ref b23)]) (lenOf pd_2 rfl) rfl (by show 2 * 0 + _ ≤ _; exact Nat.le_of_eq rfl) (hb hby at_67) (fun _ _ => ⟨rfl, e23, (by decide : 3 + 1 ≤ _), (by decide : 7 + 4 ≤ _)⟩)
  dsimp only [Pt.U, Pt.locs, Pt.cells, Pt.slots] at X27 l27 y27 z27 st27 hQ27
  subst l27 y27 z27
  obtain ⟨bz_27, kz_27, rfl, N27q, KC27, P27_0, P27_1, P27_2, P27_3, R27_0, R27_1⟩ := hQ27
  have N27 := Fr.app N19 N27q
  have Z27 : n0 ≤ T27.heap.size := Nat.le_trans Z23 KC27.1
  have K27 : Keep h0 T27.heap [] := K23.trans KC27 (allS (Or.inr sz_b23) all0)
  have VL_28 := VL_24.keep KC27 (ninS ne_b2_b23 nin0)
  have V_b16_29 := V_b16_25.keep KC27 (ninS ne_b16_b23 nin0)
  have A23_30 := A23.keep KC27
  have ne_b2_bz_27 : b2 ≠ bz_27 := Nat.ne_of_lt (Nat.lt_of_lt_of_le VL_24.lt R27_1)
  have ne_b16_bz_27 : b16 ≠ bz_27 := Nat.ne_of_lt (Nat.lt_of_lt_of_le V_b16_25.lt R27_1)
  have ne_b23_bz_27 : b23 ≠ bz_27 := Nat.ne_of_lt (Nat.lt_of_lt_of_le F_count_b23.lt R27_1)
  have E_b23_27 : Exa Z T27.heap b23 "com/example/vertumnus/vertumnus/Partitions" := P27_0
  have F_parents_b23_27 : Fld Z T27.heap b23 "com/example/vertumnus/vertumnus/Partitions" "parents" "[I" (.ref bz_27) := P27_1
  have V_bz_27_27 : Arv Z T27.heap bz_27 kz_27 .int (4 : Int32) (own_l (fun i => i)) (.int (0 : Int32)) := P27_2
  have F_count_b23_27 : Fld Z T27.heap b23 "com/example/vertumnus/vertumnus/Partitions" "count" "I" (.int (4 : Int32)) := P27_3
  have pre27 : ∀ t, Steps p.tables e below (T27.setTop (mkF m 70 #[.val (.int p1), .val (.int p2), .val (.int p3), .val (.int p4), .val (.int p5), .val (.int p6), .val (.ref b2), .val (.ref b16), .val (.int (Int32.ofNat i0)), .val (.int (Int32.ofNat i1)), .val (.int (Int32.ofNat i2)), .val (.int (Int32.ofNat i3)), .val (.int (Int32.ofNat i4)), .val (.int (Int32.ofNat i5)), .unset] [(.ref b23)])) t → Steps p.tables e below (s₁.setTop (entryFrame m #[(.int p1), (.int p2), (.int p3), (.int p4), (.int p5), (.int p6)] maxLocals)) t := fun t kt => pre26 t (st27.trans kt)
  have pre33 : ∀ t, Steps p.tables e below (T27.setTop (mkF m 78 #[.val (.int p1), .val (.int p2), .val (.int p3), .val (.int p4), .val (.int p5), .val (.int p6), .val (.ref b2), .val (.ref b16), .val (.int (Int32.ofNat i0)), .val (.int (Int32.ofNat i1)), .val (.int (Int32.ofNat i2)), .val (.int (Int32.ofNat i3)), .val (.int (Int32.ofNat i4)), .val (.int (Int32.ofNat i5)), .val (.ref b23)] [(.int (Int32.ofNat i1)), (.int (Int32.ofNat i0)), (.ref b23)])) t → Steps p.tables e below (s₁.setTop (entryFrame m #[(.int p1), (.int p2), (.int p3), (.int p4), (.int p5), (.int p6)] maxLocals)) t := by
    intro t kt
    refine pre27 t ?_
    show Steps p.tables e below (T27.setTop (mkF m 70 #[.val (.int p1), .val (.int p2), .val (.int p3), .val (.int p4), .val (.int p5), .val (.int p6), .val (.ref b2), .val (.ref b16), .val (.int (Int32.ofNat i0)), .val (.int (Int32.ofNat i1)), .val (.int (Int32.ofNat i2)), .val (.int (Int32.ofNat i3)), .val (.int (Int32.ofNat i4)), .val (.int (Int32.ofNat i5)), .unset] [(.ref b23)])) _
    refine XS.astore X27.here hx rfl (hb hby at_70) rfl rfl (l' := #[.val (.int p1), .val (.int p2), .val (.int p3), .val (.int p4), .val (.int p5), .val (.int p6), .val (.ref b2), .val (.ref b16), .val (.int (Int32.ofNat i0)), .val (.int (Int32.ofNat i1)), .val (.int (Int32.ofNat i2)), .val (.int (Int32.ofNat i3)), .val (.int (Int32.ofNat i4)), .val (.int (Int32.ofNat i5)), .val (.ref b23)]) rfl ?_
    show Steps p.tables e below (T27.setTop (mkF m 72 #[.val (.int p1), .val (.int p2), .val (.int p3), .val (.int p4), .val (.int p5), .val (.int p6), .val (.ref b2), .val (.ref b16), .val (.int (Int32.ofNat i0)), .val (.int (Int32.ofNat i1)), .val (.int (Int32.ofNat i2)), .val (.int (Int32.ofNat i3)), .val (.int (Int32.ofNat i4)), .val (.int (Int32.ofNat i5)), .val (.ref b23)] [])) _
    refine XS.aload X27.here hx rfl (hb hby at_72) rfl rfl ?_
    show Steps p.tables e below (T27.setTop (mkF m 74 #[.val (.int p1), .val (.int p2), .val (.int p3), .val (.int p4), .val (.int p5), .val (.int p6), .val (.ref b2), .val (.ref b16), .val (.int (Int32.ofNat i0)), .val (.int (Int32.ofNat i1)), .val (.int (Int32.ofNat i2)), .val (.int (Int32.ofNat i3)), .val (.int (Int32.ofNat i4)), .val (.int (Int32.ofNat i5)), .val (.ref b23)] [(.ref b23)])) _
    refine XS.iload X27.here hx rfl (hb hby at_74) rfl ?_
    show Steps p.tables e below (T27.setTop (mkF m 76 #[.val (.int p1), .val (.int p2), .val (.int p3), .val (.int p4), .val (.int p5), .val (.int p6), .val (.ref b2), .val (.ref b16), .val (.int (Int32.ofNat i0)), .val (.int (Int32.ofNat i1)), .val (.int (Int32.ofNat i2)), .val (.int (Int32.ofNat i3)), .val (.int (Int32.ofNat i4)), .val (.int (Int32.ofNat i5)), .val (.ref b23)] [(.int (Int32.ofNat i0)), (.ref b23)])) _
    refine XS.iload X27.here hx rfl (hb hby at_76) rfl ?_
    exact kt
  obtain ⟨cq34, kq34, q34a, q34b, q34c⟩ := isOf hZ rfl E_b23_27
  obtain ⟨_, _, ⟨T34, L34, k34, n34⟩, -, X34, ⟨Lc34, hQ34, l34, y34, z34⟩, st34⟩ := X27.virtualBack hx (y := (⟨"com/example/vertumnus/vertumnus/Partitions", "link", "(II)V"⟩ : MethodName)) (z := (⟨"com/example/vertumnus/vertumnus/Partitions", "link", "(II)V"⟩ : MethodName)) hown (mvT hZ (hw _ (List.mem_of_getElem? (i := 14) rfl))) (mvT hZ (hw _ (List.mem_of_getElem? (i := 15) rfl))) (notFace_of_selects (args := #[]) (mvT hZ (hw _ (List.mem_of_getElem? (i := 17) rfl)))) (mvT hZ (hw _ (List.mem_of_getElem? (i := 17) rfl))) (mvT hZ (hw _ (List.mem_of_getElem? (i := 16) rfl))) (by decide) (backOf (W := 0) (rm3 l Z a0 hw [] b23 (Int32.ofNat i0) (Int32.ofNat i1) bz_27 kz_27 (fun i => i) (fun i => i) i0 i1 (4 : Int32) T27.heap n0 Z27 E_b23_27 F_parents_b23_27 V_bz_27_27 F_count_b23_27 g_b23 R27_0 ne_b23_bz_27 (own_init) (hi0) (hi1) (rfl) (rfl)) hZ (hw _ (List.mem_of_getElem? (i := 18) rfl)) (hw _ (List.mem_of_getElem? (i := 3) rfl)) (by decide) (by decide)) q34a q34c (g := (mkF m 78 #[.val (.int p1), .val (.int p2), .val (.int p3), .val (.int p4), .val (.int p5), .val (.int p6), .val (.ref b2), .val (.ref b16), .val (.int (Int32.ofNat i0)), .val (.int (Int32.ofNat i1)), .val (.int (Int32.ofNat i2)), .val (.int (Int32.ofNat i3)), .val (.int (Int32.ofNat i4)), .val (.int (Int32.ofNat i5)), .val (.ref b23)] [(.int (Int32.ofNat i1)), (.int (Int32.ofNat i0)), (.ref b23)])) rfl (by rw [hml]; rfl) (Steps.refl _) (argsL := [(.int (Int32.ofNat i0)), (.int (Int32.ofNat i1))]) (rest := []) (lenOf pd_3 rfl) rfl (by show 2 * 0 + _ ≤ _; exact Nat.le_of_eq rfl) (hb hby at_78) (fun _ _ => ⟨rfl, rfl, (by decide : 4 + 0 ≤ _), (by decide : 11 + 0 ≤ _)⟩)
  dsimp only [Pt.U, Pt.locs, Pt.cells, Pt.slots] at X34 l34 y34 z34 st34 hQ34
  subst l34 y34 z34
  obtain ⟨pz_34, rfl, N34q, KC34, P34_0, P34_1, P34_2, P34_3, R34_0⟩ := hQ34
  have N34 := Fr.app N27 N34q
  have Z34 : n0 ≤ T34.heap.size := Nat.le_trans Z27 KC34.1
  have K34 : Keep h0 T34.heap [] := K27.trans KC34 (allS (Or.inr sz_b23) (allS (Or.inr (Nat.le_trans K23.1 R27_1)) all0))
  have VL_35 := VL_28.keep KC34 (ninS ne_b2_b23 (ninS ne_b2_bz_27 nin0))
  have V_b16_36 := V_b16_29.keep KC34 (ninS ne_b16_b23 (ninS ne_b16_bz_27 nin0))
  have E_b23_27_37 := E_b23_27.keep KC34
  have E_b23_34 : Exa Z T34.heap b23 "com/example/vertumnus/vertumnus/Partitions" := P34_0
  have F_parents_b23_34 : Fld Z T34.heap b23 "com/example/vertumnus/vertumnus/Partitions" "parents" "[I" (.ref bz_27) := P34_1
  have V_bz_27_34 : Arv Z T34.heap bz_27 kz_27 .int (4 : Int32) (own_l pz_34) (.int (0 : Int32)) := P34_2
  have F_count_b23_34 : Fld Z T34.heap b23 "com/example/vertumnus/vertumnus/Partitions" "count" "I" (.int (if (fun i => i) i0 = (fun i => i) i1 then (4 : Int32) else (4 : Int32) - 1)) := P34_3
  have pre34 : ∀ t, Steps p.tables e below (T34.setTop (mkF m 81 #[.val (.int p1), .val (.int p2), .val (.int p3), .val (.int p4), .val (.int p5), .val (.int p6), .val (.ref b2), .val (.ref b16), .val (.int (Int32.ofNat i0)), .val (.int (Int32.ofNat i1)), .val (.int (Int32.ofNat i2)), .val (.int (Int32.ofNat i3)), .val (.int (Int32.ofNat i4)), .val (.int (Int32.ofNat i5)), .val (.ref b23)] [])) t → Steps p.tables e below (s₁.setTop (entryFrame m #[(.int p1), (.int p2), (.int p3), (.int p4), (.int p5), (.int p6)] maxLocals)) t := fun t kt => pre33 t (st34.trans kt)
  have pre41 : ∀ t, Steps p.tables e below (T34.setTop (mkF m 89 #[.val (.int p1), .val (.int p2), .val (.int p3), .val (.int p4), .val (.int p5), .val (.int p6), .val (.ref b2), .val (.ref b16), .val (.int (Int32.ofNat i0)), .val (.int (Int32.ofNat i1)), .val (.int (Int32.ofNat i2)), .val (.int (Int32.ofNat i3)), .val (.int (Int32.ofNat i4)), .val (.int (Int32.ofNat i5)), .val (.ref b23)] [(.int (Int32.ofNat i1)), (.int (Int32.ofNat i0)), (.ref b16), (.ref b2)])) t → Steps p.tables e below (s₁.setTop (entryFrame m #[(.int p1), (.int p2), (.int p3), (.int p4), (.int p5), (.int p6)] maxLocals)) t := by
    intro t kt
    refine pre34 t ?_
    show Steps p.tables e below (T34.setTop (mkF m 81 #[.val (.int p1), .val (.int p2), .val (.int p3), .val (.int p4), .val (.int p5), .val (.int p6), .val (.ref b2), .val (.ref b16), .val (.int (Int32.ofNat i0)), .val (.int (Int32.ofNat i1)), .val (.int (Int32.ofNat i2)), .val (.int (Int32.ofNat i3)), .val (.int (Int32.ofNat i4)), .val (.int (Int32.ofNat i5)), .val (.ref b23)] [])) _
    refine XS.aload X34.here hx rfl (hb hby at_81) rfl rfl ?_
    show Steps p.tables e below (T34.setTop (mkF m 83 #[.val (.int p1), .val (.int p2), .val (.int p3), .val (.int p4), .val (.int p5), .val (.int p6), .val (.ref b2), .val (.ref b16), .val (.int (Int32.ofNat i0)), .val (.int (Int32.ofNat i1)), .val (.int (Int32.ofNat i2)), .val (.int (Int32.ofNat i3)), .val (.int (Int32.ofNat i4)), .val (.int (Int32.ofNat i5)), .val (.ref b23)] [(.ref b2)])) _
    refine XS.aload X34.here hx rfl (hb hby at_83) rfl rfl ?_
    show Steps p.tables e below (T34.setTop (mkF m 85 #[.val (.int p1), .val (.int p2), .val (.int p3), .val (.int p4), .val (.int p5), .val (.int p6), .val (.ref b2), .val (.ref b16), .val (.int (Int32.ofNat i0)), .val (.int (Int32.ofNat i1)), .val (.int (Int32.ofNat i2)), .val (.int (Int32.ofNat i3)), .val (.int (Int32.ofNat i4)), .val (.int (Int32.ofNat i5)), .val (.ref b23)] [(.ref b16), (.ref b2)])) _
    refine XS.iload X34.here hx rfl (hb hby at_85) rfl ?_
    show Steps p.tables e below (T34.setTop (mkF m 87 #[.val (.int p1), .val (.int p2), .val (.int p3), .val (.int p4), .val (.int p5), .val (.int p6), .val (.ref b2), .val (.ref b16), .val (.int (Int32.ofNat i0)), .val (.int (Int32.ofNat i1)), .val (.int (Int32.ofNat i2)), .val (.int (Int32.ofNat i3)), .val (.int (Int32.ofNat i4)), .val (.int (Int32.ofNat i5)), .val (.ref b23)] [(.int (Int32.ofNat i0)), (.ref b16), (.ref b2)])) _
    refine XS.iload X34.here hx rfl (hb hby at_87) rfl ?_
    exact kt
  have hl42 : ∀ k, k < 4 → (fun i => i) k < 4 := fun k hk => (own_init).2.2.2.1 k hk
  obtain ⟨_, _, ⟨T42, L42, k42, n42⟩, -, X42, ⟨Lc42, hQ42, l42, y42, z42⟩, st42⟩ := Jvm.LawKit.callS X34 hx (y := (⟨"com/example/vertumnus/vertumnus/PartitionsLinkPinLaw", "merge", "([I[III)V"⟩ : MethodName)) hown (mvT hZ (hw _ (List.mem_of_getElem? (i := 31) rfl))) (mvT hZ (hw _ (List.mem_of_getElem? (i := 32) rfl))) (mvT hZ (hw _ (List.mem_of_getElem? (i := 33) rfl))) (mvT hZ (hw _ (List.mem_of_getElem? (i := 34) rfl))) (by decide) (backOf (W := 0) (rm7 l Z a0 hw [] b2 b16 (Int32.ofNat i0) (Int32.ofNat i1) k2 k16 (4 : Int32) (fun i => i) i0 i1 T34.heap n0 Z34 VL_35 V_b16_36 g_b2 g_b16 ne_b2_b16 (hl42) (hi0) (hi1) (rfl) (rfl)) hZ (hw _ (List.mem_of_getElem? (i := 34) rfl)) (hw _ (List.mem_of_getElem? (i := 33) rfl)) (by decide) (by decide)) (g := (mkF m 89 #[.val (.int p1), .val (.int p2), .val (.int p3), .val (.int p4), .val (.int p5), .val (.int p6), .val (.ref b2), .val (.ref b16), .val (.int (Int32.ofNat i0)), .val (.int (Int32.ofNat i1)), .val (.int (Int32.ofNat i2)), .val (.int (Int32.ofNat i3)), .val (.int (Int32.ofNat i4)), .val (.int (Int32.ofNat i5)), .val (.ref b23)] [(.int (Int32.ofNat i1)), (.int (Int32.ofNat i0)), (.ref b16), (.ref b2)])) rfl (by rw [hml]; rfl) (argsL := [(.ref b2), (.ref b16), (.int (Int32.ofNat i0)), (.int (Int32.ofNat i1))]) (rest := []) (lenOf pd_4 rfl) rfl (by show 2 * 0 + _ ≤ _; exact Nat.le_of_eq rfl) (hb hby at_89) (fun _ _ => ⟨rfl, rfl, (by decide : 4 + 0 ≤ _), (by decide : 11 + 0 ≤ _)⟩)
  dsimp only [Pt.U, Pt.locs, Pt.cells, Pt.slots] at X42 l42 y42 z42 st42 hQ42
  subst l42 y42 z42
  obtain ⟨rfl, N42q, KC42, P42_0, P42_1⟩ := hQ42
  have N42 := Fr.app N34 N42q
  have Z42 : n0 ≤ T42.heap.size := Nat.le_trans Z34 KC42.1
  have K42 : Keep h0 T42.heap [] := K34.trans KC42 (allS (Or.inr sz_b2) (allS (Or.inr sz_b16) all0))
  have E_b23_34_45 := E_b23_34.keep KC42
  have F_parents_b23_34_46 := F_parents_b23_34.keep KC42 (ninS (Ne.symm ne_b2_b23) (ninS (Ne.symm ne_b16_b23) nin0))
  have V_bz_27_34_47 := V_bz_27_34.keep KC42 (ninS (Ne.symm ne_b2_bz_27) (ninS (Ne.symm ne_b16_bz_27) nin0))
  have F_count_b23_34_48 := F_count_b23_34.keep KC42 (ninS (Ne.symm ne_b2_b23) (ninS (Ne.symm ne_b16_b23) nin0))
  have V_b2_42 : Arv Z T42.heap b2 k2 .int (4 : Int32) (own_l (own_lk (fun i => i) i0 i1)) (.int (0 : Int32)) := P42_0
  have V_b16_42 : Arv Z T42.heap b16 k16 .int (1 : Int32) [(.int (if (fun i => i) i0 = (fun i => i) i1 then (4 : Int32) else (4 : Int32) - 1))] (.int (0 : Int32)) := P42_1
  have pre42 : ∀ t, Steps p.tables e below (T42.setTop (mkF m 92 #[.val (.int p1), .val (.int p2), .val (.int p3), .val (.int p4), .val (.int p5), .val (.int p6), .val (.ref b2), .val (.ref b16), .val (.int (Int32.ofNat i0)), .val (.int (Int32.ofNat i1)), .val (.int (Int32.ofNat i2)), .val (.int (Int32.ofNat i3)), .val (.int (Int32.ofNat i4)), .val (.int (Int32.ofNat i5)), .val (.ref b23)] [])) t → Steps p.tables e below (s₁.setTop (entryFrame m #[(.int p1), (.int p2), (.int p3), (.int p4), (.int p5), (.int p6)] maxLocals)) t := fun t kt => pre41 t (st42 _ kt)
  have pre49 : ∀ t, Steps p.tables e below (T42.setTop (mkF m 98 #[.val (.int p1), .val (.int p2), .val (.int p3), .val (.int p4), .val (.int p5), .val (.int p6), .val (.ref b2), .val (.ref b16), .val (.int (Int32.ofNat i0)), .val (.int (Int32.ofNat i1)), .val (.int (Int32.ofNat i2)), .val (.int (Int32.ofNat i3)), .val (.int (Int32.ofNat i4)), .val (.int (Int32.ofNat i5)), .val (.ref b23)] [(.int (Int32.ofNat i3)), (.int (Int32.ofNat i2)), (.ref b23)])) t → Steps p.tables e below (s₁.setTop (entryFrame m #[(.int p1), (.int p2), (.int p3), (.int p4), (.int p5), (.int p6)] maxLocals)) t := by
    intro t kt
    refine pre42 t ?_
    show Steps p.tables e below (T42.setTop (mkF m 92 #[.val (.int p1), .val (.int p2), .val (.int p3), .val (.int p4), .val (.int p5), .val (.int p6), .val (.ref b2), .val (.ref b16), .val (.int (Int32.ofNat i0)), .val (.int (Int32.ofNat i1)), .val (.int (Int32.ofNat i2)), .val (.int (Int32.ofNat i3)), .val (.int (Int32.ofNat i4)), .val (.int (Int32.ofNat i5)), .val (.ref b23)] [])) _
    refine XS.aload X42.here hx rfl (hb hby at_92) rfl rfl ?_
    show Steps p.tables e below (T42.setTop (mkF m 94 #[.val (.int p1), .val (.int p2), .val (.int p3), .val (.int p4), .val (.int p5), .val (.int p6), .val (.ref b2), .val (.ref b16), .val (.int (Int32.ofNat i0)), .val (.int (Int32.ofNat i1)), .val (.int (Int32.ofNat i2)), .val (.int (Int32.ofNat i3)), .val (.int (Int32.ofNat i4)), .val (.int (Int32.ofNat i5)), .val (.ref b23)] [(.ref b23)])) _
    refine XS.iload X42.here hx rfl (hb hby at_94) rfl ?_
    show Steps p.tables e below (T42.setTop (mkF m 96 #[.val (.int p1), .val (.int p2), .val (.int p3), .val (.int p4), .val (.int p5), .val (.int p6), .val (.ref b2), .val (.ref b16), .val (.int (Int32.ofNat i0)), .val (.int (Int32.ofNat i1)), .val (.int (Int32.ofNat i2)), .val (.int (Int32.ofNat i3)), .val (.int (Int32.ofNat i4)), .val (.int (Int32.ofNat i5)), .val (.ref b23)] [(.int (Int32.ofNat i2)), (.ref b23)])) _
    refine XS.iload X42.here hx rfl (hb hby at_96) rfl ?_
    exact kt
  obtain ⟨cq50, kq50, q50a, q50b, q50c⟩ := isOf hZ rfl E_b23_34_45
  obtain ⟨_, _, ⟨T50, L50, k50, n50⟩, -, X50, ⟨Lc50, hQ50, l50, y50, z50⟩, st50⟩ := X42.virtualBack hx (y := (⟨"com/example/vertumnus/vertumnus/Partitions", "link", "(II)V"⟩ : MethodName)) (z := (⟨"com/example/vertumnus/vertumnus/Partitions", "link", "(II)V"⟩ : MethodName)) hown (mvT hZ (hw _ (List.mem_of_getElem? (i := 14) rfl))) (mvT hZ (hw _ (List.mem_of_getElem? (i := 15) rfl))) (notFace_of_selects (args := #[]) (mvT hZ (hw _ (List.mem_of_getElem? (i := 17) rfl)))) (mvT hZ (hw _ (List.mem_of_getElem? (i := 17) rfl))) (mvT hZ (hw _ (List.mem_of_getElem? (i := 16) rfl))) (by decide) (backOf (W := 0) (rm3 l Z a0 hw [] b23 (Int32.ofNat i2) (Int32.ofNat i3) bz_27 kz_27 pz_34 (own_lk (fun i => i) i0 i1) i2 i3 (if (fun i => i) i0 = (fun i => i) i1 then (4 : Int32) else (4 : Int32) - 1) T42.heap n0 Z42 E_b23_34_45 F_parents_b23_34_46 V_bz_27_34_47 F_count_b23_34_48 g_b23 R27_0 ne_b23_bz_27 (R34_0) (hi2) (hi3) (rfl) (rfl)) hZ (hw _ (List.mem_of_getElem? (i := 18) rfl)) (hw _ (List.mem_of_getElem? (i := 3) rfl)) (by decide) (by decide)) q50a q50c (g := (mkF m 98 #[.val (.int p1), .val (.int p2), .val (.int p3), .val (.int p4), .val (.int p5), .val (.int p6), .val (.ref b2), .val (.ref b16), .val (.int (Int32.ofNat i0)), .val (.int (Int32.ofNat i1)), .val (.int (Int32.ofNat i2)), .val (.int (Int32.ofNat i3)), .val (.int (Int32.ofNat i4)), .val (.int (Int32.ofNat i5)), .val (.ref b23)] [(.int (Int32.ofNat i3)), (.int (Int32.ofNat i2)), (.ref b23)])) rfl (by rw [hml]; rfl) (Steps.refl _) (argsL := [(.int (Int32.ofNat i2)), (.int (Int32.ofNat i3))]) (rest := []) (lenOf pd_3 rfl) rfl (by show 2 * 0 + _ ≤ _; exact Nat.le_of_eq rfl) (hb hby at_98) (fun _ _ => ⟨rfl, rfl, (by decide : 4 + 0 ≤ _), (by decide : 11 + 0 ≤ _)⟩)
  dsimp only [Pt.U, Pt.locs, Pt.cells, Pt.slots] at X50 l50 y50 z50 st50 hQ50
  subst l50 y50 z50
  obtain ⟨pz_50, rfl, N50q, KC50, P50_0, P50_1, P50_2, P50_3, R50_0⟩ := hQ50
  have N50 := Fr.app N42 N50q
  have Z50 : n0 ≤ T50.heap.size := Nat.le_trans Z42 KC50.1
  have K50 : Keep h0 T50.heap [] := K42.trans KC50 (allS (Or.inr sz_b23) (allS (Or.inr (Nat.le_trans K23.1 R27_1)) all0))
  have E_b23_34_51 := E_b23_34_45.keep KC50
  have V_b2_42_55 := V_b2_42.keep KC50 (ninS ne_b2_b23 (ninS ne_b2_bz_27 nin0))
  have V_b16_42_56 := V_b16_42.keep KC50 (ninS ne_b16_b23 (ninS ne_b16_bz_27 nin0))
  have E_b23_50 : Exa Z T50.heap b23 "com/example/vertumnus/vertumnus/Partitions" := P50_0
  have F_parents_b23_50 : Fld Z T50.heap b23 "com/example/vertumnus/vertumnus/Partitions" "parents" "[I" (.ref bz_27) := P50_1
  have V_bz_27_50 : Arv Z T50.heap bz_27 kz_27 .int (4 : Int32) (own_l pz_50) (.int (0 : Int32)) := P50_2
  have F_count_b23_50 : Fld Z T50.heap b23 "com/example/vertumnus/vertumnus/Partitions" "count" "I" (.int (if (own_lk (fun i => i) i0 i1) i2 = (own_lk (fun i => i) i0 i1) i3 then (if (fun i => i) i0 = (fun i => i) i1 then (4 : Int32) else (4 : Int32) - 1) else (if (fun i => i) i0 = (fun i => i) i1 then (4 : Int32) else (4 : Int32) - 1) - 1)) := P50_3
  have pre50 : ∀ t, Steps p.tables e below (T50.setTop (mkF m 101 #[.val (.int p1), .val (.int p2), .val (.int p3), .val (.int p4), .val (.int p5), .val (.int p6), .val (.ref b2), .val (.ref b16), .val (.int (Int32.ofNat i0)), .val (.int (Int32.ofNat i1)), .val (.int (Int32.ofNat i2)), .val (.int (Int32.ofNat i3)), .val (.int (Int32.ofNat i4)), .val (.int (Int32.ofNat i5)), .val (.ref b23)] [])) t → Steps p.tables e below (s₁.setTop (entryFrame m #[(.int p1), (.int p2), (.int p3), (.int p4), (.int p5), (.int p6)] maxLocals)) t := fun t kt => pre49 t (st50.trans kt)
  have pre57 : ∀ t, Steps p.tables e below (T50.setTop (mkF m 109 #[.val (.int p1), .val (.int p2), .val (.int p3), .val (.int p4), .val (.int p5), .val (.int p6), .val (.ref b2), .val (.ref b16), .val (.int (Int32.ofNat i0)), .val (.int (Int32.ofNat i1)), .val (.int (Int32.ofNat i2)), .val (.int (Int32.ofNat i3)), .val (.int (Int32.ofNat i4)), .val (.int (Int32.ofNat i5)), .val (.ref b23)] [(.int (Int32.ofNat i3)), (.int (Int32.ofNat i2)), (.ref b16), (.ref b2)])) t → Steps p.tables e below (s₁.setTop (entryFrame m #[(.int p1), (.int p2), (.int p3), (.int p4), (.int p5), (.int p6)] maxLocals)) t := by
    intro t kt
    refine pre50 t ?_
    show Steps p.tables e below (T50.setTop (mkF m 101 #[.val (.int p1), .val (.int p2), .val (.int p3), .val (.int p4), .val (.int p5), .val (.int p6), .val (.ref b2), .val (.ref b16), .val (.int (Int32.ofNat i0)), .val (.int (Int32.ofNat i1)), .val (.int (Int32.ofNat i2)), .val (.int (Int32.ofNat i3)), .val (.int (Int32.ofNat i4)), .val (.int (Int32.ofNat i5)), .val (.ref b23)] [])) _
    refine XS.aload X50.here hx rfl (hb hby at_101) rfl rfl ?_
    show Steps p.tables e below (T50.setTop (mkF m 103 #[.val (.int p1), .val (.int p2), .val (.int p3), .val (.int p4), .val (.int p5), .val (.int p6), .val (.ref b2), .val (.ref b16), .val (.int (Int32.ofNat i0)), .val (.int (Int32.ofNat i1)), .val (.int (Int32.ofNat i2)), .val (.int (Int32.ofNat i3)), .val (.int (Int32.ofNat i4)), .val (.int (Int32.ofNat i5)), .val (.ref b23)] [(.ref b2)])) _
    refine XS.aload X50.here hx rfl (hb hby at_103) rfl rfl ?_
    show Steps p.tables e below (T50.setTop (mkF m 105 #[.val (.int p1), .val (.int p2), .val (.int p3), .val (.int p4), .val (.int p5), .val (.int p6), .val (.ref b2), .val (.ref b16), .val (.int (Int32.ofNat i0)), .val (.int (Int32.ofNat i1)), .val (.int (Int32.ofNat i2)), .val (.int (Int32.ofNat i3)), .val (.int (Int32.ofNat i4)), .val (.int (Int32.ofNat i5)), .val (.ref b23)] [(.ref b16), (.ref b2)])) _
    refine XS.iload X50.here hx rfl (hb hby at_105) rfl ?_
    show Steps p.tables e below (T50.setTop (mkF m 107 #[.val (.int p1), .val (.int p2), .val (.int p3), .val (.int p4), .val (.int p5), .val (.int p6), .val (.ref b2), .val (.ref b16), .val (.int (Int32.ofNat i0)), .val (.int (Int32.ofNat i1)), .val (.int (Int32.ofNat i2)), .val (.int (Int32.ofNat i3)), .val (.int (Int32.ofNat i4)), .val (.int (Int32.ofNat i5)), .val (.ref b23)] [(.int (Int32.ofNat i2)), (.ref b16), (.ref b2)])) _
    refine XS.iload X50.here hx rfl (hb hby at_107) rfl ?_
    exact kt
  have hl58 : ∀ k, k < 4 → (own_lk (fun i => i) i0 i1) k < 4 := fun k hk => (R34_0).2.2.2.1 k hk
  obtain ⟨_, _, ⟨T58, L58, k58, n58⟩, -, X58, ⟨Lc58, hQ58, l58, y58, z58⟩, st58⟩ := Jvm.LawKit.callS X50 hx (y := (⟨"com/example/vertumnus/vertumnus/PartitionsLinkPinLaw", "merge", "([I[III)V"⟩ : MethodName)) hown (mvT hZ (hw _ (List.mem_of_getElem? (i := 31) rfl))) (mvT hZ (hw _ (List.mem_of_getElem? (i := 32) rfl))) (mvT hZ (hw _ (List.mem_of_getElem? (i := 33) rfl))) (mvT hZ (hw _ (List.mem_of_getElem? (i := 34) rfl))) (by decide) (backOf (W := 0) (rm7 l Z a0 hw [] b2 b16 (Int32.ofNat i2) (Int32.ofNat i3) k2 k16 (if (fun i => i) i0 = (fun i => i) i1 then (4 : Int32) else (4 : Int32) - 1) (own_lk (fun i => i) i0 i1) i2 i3 T50.heap n0 Z50 V_b2_42_55 V_b16_42_56 g_b2 g_b16 ne_b2_b16 (hl58) (hi2) (hi3) (rfl) (rfl)) hZ (hw _ (List.mem_of_getElem? (i := 34) rfl)) (hw _ (List.mem_of_getElem? (i := 33) rfl)) (by decide) (by decide)) (g := (mkF m 109 #[.val (.int p1), .val (.int p2), .val (.int p3), .val (.int p4), .val (.int p5), .val (.int p6), .val (.ref b2), .val (.ref b16), .val (.int (Int32.ofNat i0)), .val (.int (Int32.ofNat i1)), .val (.int (Int32.ofNat i2)), .val (.int (Int32.ofNat i3)), .val (.int (Int32.ofNat i4)), .val (.int (Int32.ofNat i5)), .val (.ref b23)] [(.int (Int32.ofNat i3)), (.int (Int32.ofNat i2)), (.ref b16), (.ref b2)])) rfl (by rw [hml]; rfl) (argsL := [(.ref b2), (.ref b16), (.int (Int32.ofNat i2)), (.int (Int32.ofNat i3))]) (rest := []) (lenOf pd_4 rfl) rfl (by show 2 * 0 + _ ≤ _; exact Nat.le_of_eq rfl) (hb hby at_109) (fun _ _ => ⟨rfl, rfl, (by decide : 4 + 0 ≤ _), (by decide : 11 + 0 ≤ _)⟩)
  dsimp only [Pt.U, Pt.locs, Pt.cells, Pt.slots] at X58 l58 y58 z58 st58 hQ58
  subst l58 y58 z58
  obtain ⟨rfl, N58q, KC58, P58_0, P58_1⟩ := hQ58
  have N58 := Fr.app N50 N58q
  have Z58 : n0 ≤ T58.heap.size := Nat.le_trans Z50 KC58.1
  have K58 : Keep h0 T58.heap [] := K50.trans KC58 (allS (Or.inr sz_b2) (allS (Or.inr sz_b16) all0))
  have E_b23_50_59 := E_b23_50.keep KC58
  have F_parents_b23_50_62 := F_parents_b23_50.keep KC58 (ninS (Ne.symm ne_b2_b23) (ninS (Ne.symm ne_b16_b23) nin0))
  have V_bz_27_50_63 := V_bz_27_50.keep KC58 (ninS (Ne.symm ne_b2_bz_27) (ninS (Ne.symm ne_b16_bz_27) nin0))
  have F_count_b23_50_64 := F_count_b23_50.keep KC58 (ninS (Ne.symm ne_b2_b23) (ninS (Ne.symm ne_b16_b23) nin0))
  have V_b2_58 : Arv Z T58.heap b2 k2 .int (4 : Int32) (own_l (own_lk (own_lk (fun i => i) i0 i1) i2 i3)) (.int (0 : Int32)) := P58_0
  have V_b16_58 : Arv Z T58.heap b16 k16 .int (1 : Int32) [(.int (if (own_lk (fun i => i) i0 i1) i2 = (own_lk (fun i => i) i0 i1) i3 then (if (fun i => i) i0 = (fun i => i) i1 then (4 : Int32) else (4 : Int32) - 1) else (if (fun i => i) i0 = (fun i => i) i1 then (4 : Int32) else (4 : Int32) - 1) - 1))] (.int (0 : Int32)) := P58_1
  have pre58 : ∀ t, Steps p.tables e below (T58.setTop (mkF m 112 #[.val (.int p1), .val (.int p2), .val (.int p3), .val (.int p4), .val (.int p5), .val (.int p6), .val (.ref b2), .val (.ref b16), .val (.int (Int32.ofNat i0)), .val (.int (Int32.ofNat i1)), .val (.int (Int32.ofNat i2)), .val (.int (Int32.ofNat i3)), .val (.int (Int32.ofNat i4)), .val (.int (Int32.ofNat i5)), .val (.ref b23)] [])) t → Steps p.tables e below (s₁.setTop (entryFrame m #[(.int p1), (.int p2), (.int p3), (.int p4), (.int p5), (.int p6)] maxLocals)) t := fun t kt => pre57 t (st58 _ kt)
  have pre65 : ∀ t, Steps p.tables e below (T58.setTop (mkF m 118 #[.val (.int p1), .val (.int p2), .val (.int p3), .val (.int p4), .val (.int p5), .val (.int p6), .val (.ref b2), .val (.ref b16), .val (.int (Int32.ofNat i0)), .val (.int (Int32.ofNat i1)), .val (.int (Int32.ofNat i2)), .val (.int (Int32.ofNat i3)), .val (.int (Int32.ofNat i4)), .val (.int (Int32.ofNat i5)), .val (.ref b23)] [(.int (Int32.ofNat i5)), (.int (Int32.ofNat i4)), (.ref b23)])) t → Steps p.tables e below (s₁.setTop (entryFrame m #[(.int p1), (.int p2), (.int p3), (.int p4), (.int p5), (.int p6)] maxLocals)) t := by
    intro t kt
    refine pre58 t ?_
    show Steps p.tables e below (T58.setTop (mkF m 112 #[.val (.int p1), .val (.int p2), .val (.int p3), .val (.int p4), .val (.int p5), .val (.int p6), .val (.ref b2), .val (.ref b16), .val (.int (Int32.ofNat i0)), .val (.int (Int32.ofNat i1)), .val (.int (Int32.ofNat i2)), .val (.int (Int32.ofNat i3)), .val (.int (Int32.ofNat i4)), .val (.int (Int32.ofNat i5)), .val (.ref b23)] [])) _
    refine XS.aload X58.here hx rfl (hb hby at_112) rfl rfl ?_
    show Steps p.tables e below (T58.setTop (mkF m 114 #[.val (.int p1), .val (.int p2), .val (.int p3), .val (.int p4), .val (.int p5), .val (.int p6), .val (.ref b2), .val (.ref b16), .val (.int (Int32.ofNat i0)), .val (.int (Int32.ofNat i1)), .val (.int (Int32.ofNat i2)), .val (.int (Int32.ofNat i3)), .val (.int (Int32.ofNat i4)), .val (.int (Int32.ofNat i5)), .val (.ref b23)] [(.ref b23)])) _
    refine XS.iload X58.here hx rfl (hb hby at_114) rfl ?_
    show Steps p.tables e below (T58.setTop (mkF m 116 #[.val (.int p1), .val (.int p2), .val (.int p3), .val (.int p4), .val (.int p5), .val (.int p6), .val (.ref b2), .val (.ref b16), .val (.int (Int32.ofNat i0)), .val (.int (Int32.ofNat i1)), .val (.int (Int32.ofNat i2)), .val (.int (Int32.ofNat i3)), .val (.int (Int32.ofNat i4)), .val (.int (Int32.ofNat i5)), .val (.ref b23)] [(.int (Int32.ofNat i4)), (.ref b23)])) _
    refine XS.iload X58.here hx rfl (hb hby at_116) rfl ?_
    exact kt
  obtain ⟨cq66, kq66, q66a, q66b, q66c⟩ := isOf hZ rfl E_b23_50_59
  obtain ⟨_, _, ⟨T66, L66, k66, n66⟩, -, X66, ⟨Lc66, hQ66, l66, y66, z66⟩, st66⟩ := X58.virtualBack hx (y := (⟨"com/example/vertumnus/vertumnus/Partitions", "link", "(II)V"⟩ : MethodName)) (z := (⟨"com/example/vertumnus/vertumnus/Partitions", "link", "(II)V"⟩ : MethodName)) hown (mvT hZ (hw _ (List.mem_of_getElem? (i := 14) rfl))) (mvT hZ (hw _ (List.mem_of_getElem? (i := 15) rfl))) (notFace_of_selects (args := #[]) (mvT hZ (hw _ (List.mem_of_getElem? (i := 17) rfl)))) (mvT hZ (hw _ (List.mem_of_getElem? (i := 17) rfl))) (mvT hZ (hw _ (List.mem_of_getElem? (i := 16) rfl))) (by decide) (backOf (W := 0) (rm3 l Z a0 hw [] b23 (Int32.ofNat i4) (Int32.ofNat i5) bz_27 kz_27 pz_50 (own_lk (own_lk (fun i => i) i0 i1) i2 i3) i4 i5 (if (own_lk (fun i => i) i0 i1) i2 = (own_lk (fun i => i) i0 i1) i3 then (if (fun i => i) i0 = (fun i => i) i1 then (4 : Int32) else (4 : Int32) - 1) else (if (fun i => i) i0 = (fun i => i) i1 then (4 : Int32) else (4 : Int32) - 1) - 1) T58.heap n0 Z58 E_b23_50_59 F_parents_b23_50_62 V_bz_27_50_63 F_count_b23_50_64 g_b23 R27_0 ne_b23_bz_27 (R50_0) (hi4) (hi5) (rfl) (rfl)) hZ (hw _ (List.mem_of_getElem? (i := 18) rfl)) (hw _ (List.mem_of_getElem? (i := 3) rfl)) (by decide) (by decide)) q66a q66c (g := (mkF m 118 #[.val (.int p1), .val (.int p2), .val (.int p3), .val (.int p4), .val (.int p5), .val (.int p6), .val (.ref b2), .val (.ref b16), .val (.int (Int32.ofNat i0)), .val (.int (Int32.ofNat i1)), .val (.int (Int32.ofNat i2)), .val (.int (Int32.ofNat i3)), .val (.int (Int32.ofNat i4)), .val (.int (Int32.ofNat i5)), .val (.ref b23)] [(.int (Int32.ofNat i5)), (.int (Int32.ofNat i4)), (.ref b23)])) rfl (by rw [hml]; rfl) (Steps.refl _) (argsL := [(.int (Int32.ofNat i4)), (.int (Int32.ofNat i5))]) (rest := []) (lenOf pd_3 rfl) rfl (by show 2 * 0 + _ ≤ _; exact Nat.le_of_eq rfl) (hb hby at_118) (fun _ _ => ⟨rfl, rfl, (by decide : 4 + 0 ≤ _), (by decide : 11 + 0 ≤ _)⟩)
  dsimp only [Pt.U, Pt.locs, Pt.cells, Pt.slots] at X66 l66 y66 z66 st66 hQ66
  subst l66 y66 z66
  obtain ⟨pz_66, rfl, N66q, KC66, P66_0, P66_1, P66_2, P66_3, R66_0⟩ := hQ66
  have N66 := Fr.app N58 N66q
  have Z66 : n0 ≤ T66.heap.size := Nat.le_trans Z58 KC66.1
  have K66 : Keep h0 T66.heap [] := K58.trans KC66 (allS (Or.inr sz_b23) (allS (Or.inr (Nat.le_trans K23.1 R27_1)) all0))
  have E_b23_50_67 := E_b23_50_59.keep KC66
  have V_b2_58_71 := V_b2_58.keep KC66 (ninS ne_b2_b23 (ninS ne_b2_bz_27 nin0))
  have V_b16_58_72 := V_b16_58.keep KC66 (ninS ne_b16_b23 (ninS ne_b16_bz_27 nin0))
  have E_b23_66 : Exa Z T66.heap b23 "com/example/vertumnus/vertumnus/Partitions" := P66_0
  have F_parents_b23_66 : Fld Z T66.heap b23 "com/example/vertumnus/vertumnus/Partitions" "parents" "[I" (.ref bz_27) := P66_1
  have V_bz_27_66 : Arv Z T66.heap bz_27 kz_27 .int (4 : Int32) (own_l pz_66) (.int (0 : Int32)) := P66_2
  have F_count_b23_66 : Fld Z T66.heap b23 "com/example/vertumnus/vertumnus/Partitions" "count" "I" (.int (if (own_lk (own_lk (fun i => i) i0 i1) i2 i3) i4 = (own_lk (own_lk (fun i => i) i0 i1) i2 i3) i5 then (if (own_lk (fun i => i) i0 i1) i2 = (own_lk (fun i => i) i0 i1) i3 then (if (fun i => i) i0 = (fun i => i) i1 then (4 : Int32) else (4 : Int32) - 1) else (if (fun i => i) i0 = (fun i => i) i1 then (4 : Int32) else (4 : Int32) - 1) - 1) else (if (own_lk (fun i => i) i0 i1) i2 = (own_lk (fun i => i) i0 i1) i3 then (if (fun i => i) i0 = (fun i => i) i1 then (4 : Int32) else (4 : Int32) - 1) else (if (fun i => i) i0 = (fun i => i) i1 then (4 : Int32) else (4 : Int32) - 1) - 1) - 1)) := P66_3
  have pre66 : ∀ t, Steps p.tables e below (T66.setTop (mkF m 121 #[.val (.int p1), .val (.int p2), .val (.int p3), .val (.int p4), .val (.int p5), .val (.int p6), .val (.ref b2), .val (.ref b16), .val (.int (Int32.ofNat i0)), .val (.int (Int32.ofNat i1)), .val (.int (Int32.ofNat i2)), .val (.int (Int32.ofNat i3)), .val (.int (Int32.ofNat i4)), .val (.int (Int32.ofNat i5)), .val (.ref b23)] [])) t → Steps p.tables e below (s₁.setTop (entryFrame m #[(.int p1), (.int p2), (.int p3), (.int p4), (.int p5), (.int p6)] maxLocals)) t := fun t kt => pre65 t (st66.trans kt)
  have pre73 : ∀ t, Steps p.tables e below (T66.setTop (mkF m 129 #[.val (.int p1), .val (.int p2), .val (.int p3), .val (.int p4), .val (.int p5), .val (.int p6), .val (.ref b2), .val (.ref b16), .val (.int (Int32.ofNat i0)), .val (.int (Int32.ofNat i1)), .val (.int (Int32.ofNat i2)), .val (.int (Int32.ofNat i3)), .val (.int (Int32.ofNat i4)), .val (.int (Int32.ofNat i5)), .val (.ref b23)] [(.int (Int32.ofNat i5)), (.int (Int32.ofNat i4)), (.ref b16), (.ref b2)])) t → Steps p.tables e below (s₁.setTop (entryFrame m #[(.int p1), (.int p2), (.int p3), (.int p4), (.int p5), (.int p6)] maxLocals)) t := by
    intro t kt
    refine pre66 t ?_
    show Steps p.tables e below (T66.setTop (mkF m 121 #[.val (.int p1), .val (.int p2), .val (.int p3), .val (.int p4), .val (.int p5), .val (.int p6), .val (.ref b2), .val (.ref b16), .val (.int (Int32.ofNat i0)), .val (.int (Int32.ofNat i1)), .val (.int (Int32.ofNat i2)), .val (.int (Int32.ofNat i3)), .val (.int (Int32.ofNat i4)), .val (.int (Int32.ofNat i5)), .val (.ref b23)] [])) _
    refine XS.aload X66.here hx rfl (hb hby at_121) rfl rfl ?_
    show Steps p.tables e below (T66.setTop (mkF m 123 #[.val (.int p1), .val (.int p2), .val (.int p3), .val (.int p4), .val (.int p5), .val (.int p6), .val (.ref b2), .val (.ref b16), .val (.int (Int32.ofNat i0)), .val (.int (Int32.ofNat i1)), .val (.int (Int32.ofNat i2)), .val (.int (Int32.ofNat i3)), .val (.int (Int32.ofNat i4)), .val (.int (Int32.ofNat i5)), .val (.ref b23)] [(.ref b2)])) _
    refine XS.aload X66.here hx rfl (hb hby at_123) rfl rfl ?_
    show Steps p.tables e below (T66.setTop (mkF m 125 #[.val (.int p1), .val (.int p2), .val (.int p3), .val (.int p4), .val (.int p5), .val (.int p6), .val (.ref b2), .val (.ref b16), .val (.int (Int32.ofNat i0)), .val (.int (Int32.ofNat i1)), .val (.int (Int32.ofNat i2)), .val (.int (Int32.ofNat i3)), .val (.int (Int32.ofNat i4)), .val (.int (Int32.ofNat i5)), .val (.ref b23)] [(.ref b16), (.ref b2)])) _
    refine XS.iload X66.here hx rfl (hb hby at_125) rfl ?_
    show Steps p.tables e below (T66.setTop (mkF m 127 #[.val (.int p1), .val (.int p2), .val (.int p3), .val (.int p4), .val (.int p5), .val (.int p6), .val (.ref b2), .val (.ref b16), .val (.int (Int32.ofNat i0)), .val (.int (Int32.ofNat i1)), .val (.int (Int32.ofNat i2)), .val (.int (Int32.ofNat i3)), .val (.int (Int32.ofNat i4)), .val (.int (Int32.ofNat i5)), .val (.ref b23)] [(.int (Int32.ofNat i4)), (.ref b16), (.ref b2)])) _
    refine XS.iload X66.here hx rfl (hb hby at_127) rfl ?_
    exact kt
  have hl74 : ∀ k, k < 4 → (own_lk (own_lk (fun i => i) i0 i1) i2 i3) k < 4 := fun k hk => (R50_0).2.2.2.1 k hk
  obtain ⟨_, _, ⟨T74, L74, k74, n74⟩, -, X74, ⟨Lc74, hQ74, l74, y74, z74⟩, st74⟩ := Jvm.LawKit.callS X66 hx (y := (⟨"com/example/vertumnus/vertumnus/PartitionsLinkPinLaw", "merge", "([I[III)V"⟩ : MethodName)) hown (mvT hZ (hw _ (List.mem_of_getElem? (i := 31) rfl))) (mvT hZ (hw _ (List.mem_of_getElem? (i := 32) rfl))) (mvT hZ (hw _ (List.mem_of_getElem? (i := 33) rfl))) (mvT hZ (hw _ (List.mem_of_getElem? (i := 34) rfl))) (by decide) (backOf (W := 0) (rm7 l Z a0 hw [] b2 b16 (Int32.ofNat i4) (Int32.ofNat i5) k2 k16 (if (own_lk (fun i => i) i0 i1) i2 = (own_lk (fun i => i) i0 i1) i3 then (if (fun i => i) i0 = (fun i => i) i1 then (4 : Int32) else (4 : Int32) - 1) else (if (fun i => i) i0 = (fun i => i) i1 then (4 : Int32) else (4 : Int32) - 1) - 1) (own_lk (own_lk (fun i => i) i0 i1) i2 i3) i4 i5 T66.heap n0 Z66 V_b2_58_71 V_b16_58_72 g_b2 g_b16 ne_b2_b16 (hl74) (hi4) (hi5) (rfl) (rfl)) hZ (hw _ (List.mem_of_getElem? (i := 34) rfl)) (hw _ (List.mem_of_getElem? (i := 33) rfl)) (by decide) (by decide)) (g := (mkF m 129 #[.val (.int p1), .val (.int p2), .val (.int p3), .val (.int p4), .val (.int p5), .val (.int p6), .val (.ref b2), .val (.ref b16), .val (.int (Int32.ofNat i0)), .val (.int (Int32.ofNat i1)), .val (.int (Int32.ofNat i2)), .val (.int (Int32.ofNat i3)), .val (.int (Int32.ofNat i4)), .val (.int (Int32.ofNat i5)), .val (.ref b23)] [(.int (Int32.ofNat i5)), (.int (Int32.ofNat i4)), (.ref b16), (.ref b2)])) rfl (by rw [hml]; rfl) (argsL := [(.ref b2), (.ref b16), (.int (Int32.ofNat i4)), (.int (Int32.ofNat i5))]) (rest := []) (lenOf pd_4 rfl) rfl (by show 2 * 0 + _ ≤ _; exact Nat.le_of_eq rfl) (hb hby at_129) (fun _ _ => ⟨rfl, rfl, (by decide : 4 + 0 ≤ _), (by decide : 11 + 0 ≤ _)⟩)
  dsimp only [Pt.U, Pt.locs, Pt.cells, Pt.slots] at X74 l74 y74 z74 st74 hQ74
  subst l74 y74 z74
  obtain ⟨rfl, N74q, KC74, P74_0, P74_1⟩ := hQ74
  have N74 := Fr.app N66 N74q
  have Z74 : n0 ≤ T74.heap.size := Nat.le_trans Z66 KC74.1
  have K74 : Keep h0 T74.heap [] := K66.trans KC74 (allS (Or.inr sz_b2) (allS (Or.inr sz_b16) all0))
  have E_b23_66_75 := E_b23_66.keep KC74
  have F_parents_b23_66_78 := F_parents_b23_66.keep KC74 (ninS (Ne.symm ne_b2_b23) (ninS (Ne.symm ne_b16_b23) nin0))
  have V_bz_27_66_79 := V_bz_27_66.keep KC74 (ninS (Ne.symm ne_b2_bz_27) (ninS (Ne.symm ne_b16_bz_27) nin0))
  have F_count_b23_66_80 := F_count_b23_66.keep KC74 (ninS (Ne.symm ne_b2_b23) (ninS (Ne.symm ne_b16_b23) nin0))
  have V_b2_74 : Arv Z T74.heap b2 k2 .int (4 : Int32) (own_l (own_lk (own_lk (own_lk (fun i => i) i0 i1) i2 i3) i4 i5)) (.int (0 : Int32)) := P74_0
  have V_b16_74 : Arv Z T74.heap b16 k16 .int (1 : Int32) [(.int (if (own_lk (own_lk (fun i => i) i0 i1) i2 i3) i4 = (own_lk (own_lk (fun i => i) i0 i1) i2 i3) i5 then (if (own_lk (fun i => i) i0 i1) i2 = (own_lk (fun i => i) i0 i1) i3 then (if (fun i => i) i0 = (fun i => i) i1 then (4 : Int32) else (4 : Int32) - 1) else (if (fun i => i) i0 = (fun i => i) i1 then (4 : Int32) else (4 : Int32) - 1) - 1) else (if (own_lk (fun i => i) i0 i1) i2 = (own_lk (fun i => i) i0 i1) i3 then (if (fun i => i) i0 = (fun i => i) i1 then (4 : Int32) else (4 : Int32) - 1) else (if (fun i => i) i0 = (fun i => i) i1 then (4 : Int32) else (4 : Int32) - 1) - 1) - 1))] (.int (0 : Int32)) := P74_1
  have pre74 : ∀ t, Steps p.tables e below (T74.setTop (mkF m 132 #[.val (.int p1), .val (.int p2), .val (.int p3), .val (.int p4), .val (.int p5), .val (.int p6), .val (.ref b2), .val (.ref b16), .val (.int (Int32.ofNat i0)), .val (.int (Int32.ofNat i1)), .val (.int (Int32.ofNat i2)), .val (.int (Int32.ofNat i3)), .val (.int (Int32.ofNat i4)), .val (.int (Int32.ofNat i5)), .val (.ref b23)] [])) t → Steps p.tables e below (s₁.setTop (entryFrame m #[(.int p1), (.int p2), (.int p3), (.int p4), (.int p5), (.int p6)] maxLocals)) t := fun t kt => pre73 t (st74 _ kt)
  have pre81 : ∀ t, Steps p.tables e below (T74.setTop (mkF m 135 #[.val (.int p1), .val (.int p2), .val (.int p3), .val (.int p4), .val (.int p5), .val (.int p6), .val (.ref b2), .val (.ref b16), .val (.int (Int32.ofNat i0)), .val (.int (Int32.ofNat i1)), .val (.int (Int32.ofNat i2)), .val (.int (Int32.ofNat i3)), .val (.int (Int32.ofNat i4)), .val (.int (Int32.ofNat i5)), .val (.ref b23)] [(.int (0 : Int32)), (.ref b23)])) t → Steps p.tables e below (s₁.setTop (entryFrame m #[(.int p1), (.int p2), (.int p3), (.int p4), (.int p5), (.int p6)] maxLocals)) t := by
    intro t kt
    refine pre74 t ?_
    show Steps p.tables e below (T74.setTop (mkF m 132 #[.val (.int p1), .val (.int p2), .val (.int p3), .val (.int p4), .val (.int p5), .val (.int p6), .val (.ref b2), .val (.ref b16), .val (.int (Int32.ofNat i0)), .val (.int (Int32.ofNat i1)), .val (.int (Int32.ofNat i2)), .val (.int (Int32.ofNat i3)), .val (.int (Int32.ofNat i4)), .val (.int (Int32.ofNat i5)), .val (.ref b23)] [])) _
    refine XS.aload X74.here hx rfl (hb hby at_132) rfl rfl ?_
    show Steps p.tables e below (T74.setTop (mkF m 134 #[.val (.int p1), .val (.int p2), .val (.int p3), .val (.int p4), .val (.int p5), .val (.int p6), .val (.ref b2), .val (.ref b16), .val (.int (Int32.ofNat i0)), .val (.int (Int32.ofNat i1)), .val (.int (Int32.ofNat i2)), .val (.int (Int32.ofNat i3)), .val (.int (Int32.ofNat i4)), .val (.int (Int32.ofNat i5)), .val (.ref b23)] [(.ref b23)])) _
    refine XS.iconst X74.here hx rfl (hb hby at_134) ?_
    exact kt
  obtain ⟨cq82, kq82, q82a, q82b, q82c⟩ := isOf hZ rfl E_b23_66_75
  obtain ⟨_, _, ⟨T82, L82, k82, n82⟩, -, X82, ⟨Lc82, hQ82, l82, y82, z82⟩, st82⟩ := X74.virtualBack hx (y := (⟨"com/example/vertumnus/vertumnus/Partitions", "partitionOf", "(I)I"⟩ : MethodName)) (z := (⟨"com/example/vertumnus/vertumnus/Partitions", "partitionOf", "(I)I"⟩ : MethodName)) hown (mvT hZ (hw _ (List.mem_of_getElem? (i := 37) rfl))) (mvT hZ (hw _ (List.mem_of_getElem? (i := 20) rfl))) (notFace_of_selects (args := #[]) (mvT hZ (hw _ (List.mem_of_getElem? (i := 22) rfl)))) (mvT hZ (hw _ (List.mem_of_getElem? (i := 22) rfl))) (mvT hZ (hw _ (List.mem_of_getElem? (i := 21) rfl))) (by decide) (backOf (W := 0) (rm4 l Z a0 hw [] b23 (0 : Int32) bz_27 kz_27 pz_66 (own_lk (own_lk (own_lk (fun i => i) i0 i1) i2 i3) i4 i5) 0 T74.heap n0 Z74 F_parents_b23_66_78 V_bz_27_66_79 R27_0 ne_b23_bz_27 (R66_0) ((by decide)) (rfl)) hZ (hw _ (List.mem_of_getElem? (i := 23) rfl)) (hw _ (List.mem_of_getElem? (i := 3) rfl)) (by decide) (by decide)) q82a q82c (g := (mkF m 135 #[.val (.int p1), .val (.int p2), .val (.int p3), .val (.int p4), .val (.int p5), .val (.int p6), .val (.ref b2), .val (.ref b16), .val (.int (Int32.ofNat i0)), .val (.int (Int32.ofNat i1)), .val (.int (Int32.ofNat i2)), .val (.int (Int32.ofNat i3)), .val (.int (Int32.ofNat i4)), .val (.int (Int32.ofNat i5)), .val (.ref b23)] [(.int (0 : Int32)), (.ref b23)])) rfl (by rw [hml]; rfl) (Steps.refl _) (argsL := [(.int (0 : Int32))]) (rest := []) (lenOf pd_0 rfl) rfl (by show 2 * 0 + _ ≤ _; exact Nat.le_of_eq rfl) (hb hby at_135) (fun _ _ => ⟨rfl, rfl, (by decide : 4 + 0 ≤ _), (by decide : 11 + 0 ≤ _)⟩)
  dsimp only [Pt.U, Pt.locs, Pt.cells, Pt.slots] at X82 l82 y82 z82 st82 hQ82
  subst l82 y82 z82
  obtain ⟨pz_82, rfl, N82q, KC82, P82_0, P82_1, R82_0⟩ := hQ82
  have N82 := Fr.app N74 N82q
  have Z82 : n0 ≤ T82.heap.size := Nat.le_trans Z74 KC82.1
  have K82 : Keep h0 T82.heap [] := K74.trans KC82 (allS (Or.inr (Nat.le_trans K23.1 R27_1)) all0)
  have E_b23_66_83 := E_b23_66_75.keep KC82
  have F_parents_b23_66_84 := F_parents_b23_66_78.keep KC82 (ninS ne_b23_bz_27 nin0)
  have F_count_b23_66_86 := F_count_b23_66_80.keep KC82 (ninS ne_b23_bz_27 nin0)
  have V_b2_74_87 := V_b2_74.keep KC82 (ninS ne_b2_bz_27 nin0)
  have V_b16_74_88 := V_b16_74.keep KC82 (ninS ne_b16_bz_27 nin0)
  have F_parents_b23_82 : Fld Z T82.heap b23 "com/example/vertumnus/vertumnus/Partitions" "parents" "[I" (.ref bz_27) := P82_0
  have V_bz_27_82 : Arv Z T82.heap bz_27 kz_27 .int (4 : Int32) (own_l pz_82) (.int (0 : Int32)) := P82_1
  have pre82 : ∀ t, Steps p.tables e below (T82.setTop (mkF m 138 #[.val (.int p1), .val (.int p2), .val (.int p3), .val (.int p4), .val (.int p5), .val (.int p6), .val (.ref b2), .val (.ref b16), .val (.int (Int32.ofNat i0)), .val (.int (Int32.ofNat i1)), .val (.int (Int32.ofNat i2)), .val (.int (Int32.ofNat i3)), .val (.int (Int32.ofNat i4)), .val (.int (Int32.ofNat i5)), .val (.ref b23)] [(.int (Int32.ofNat ((own_lk (own_lk (own_lk (fun i => i) i0 i1) i2 i3) i4 i5) 0)))])) t → Steps p.tables e below (s₁.setTop (entryFrame m #[(.int p1), (.int p2), (.int p3), (.int p4), (.int p5), (.int p6)] maxLocals)) t := fun t kt => pre81 t (st82.trans kt)
  have pre90 : ∀ t, Steps p.tables e below (T82.setTop (mkF m 148 #[.val (.int p1), .val (.int p2), .val (.int p3), .val (.int p4), .val (.int p5), .val (.int p6), .val (.ref b2), .val (.ref b16), .val (.int (Int32.ofNat i0)), .val (.int (Int32.ofNat i1)), .val (.int (Int32.ofNat i2)), .val (.int (Int32.ofNat i3)), .val (.int (Int32.ofNat i4)), .val (.int (Int32.ofNat i5)), .val (.ref b23)] [(.int (1 : Int32)), (.ref b23)])) t → Steps p.tables e below (s₁.setTop (entryFrame m #[(.int p1), (.int p2), (.int p3), (.int p4), (.int p5), (.int p6)] maxLocals)) t := by
    intro t kt
    refine pre82 t ?_
    show Steps p.tables e below (T82.setTop (mkF m 138 #[.val (.int p1), .val (.int p2), .val (.int p3), .val (.int p4), .val (.int p5), .val (.int p6), .val (.ref b2), .val (.ref b16), .val (.int (Int32.ofNat i0)), .val (.int (Int32.ofNat i1)), .val (.int (Int32.ofNat i2)), .val (.int (Int32.ofNat i3)), .val (.int (Int32.ofNat i4)), .val (.int (Int32.ofNat i5)), .val (.ref b23)] [(.int (Int32.ofNat ((own_lk (own_lk (own_lk (fun i => i) i0 i1) i2 i3) i4 i5) 0)))])) _
    refine XS.aload X82.here hx rfl (hb hby at_138) rfl rfl ?_
    show Steps p.tables e below (T82.setTop (mkF m 140 #[.val (.int p1), .val (.int p2), .val (.int p3), .val (.int p4), .val (.int p5), .val (.int p6), .val (.ref b2), .val (.ref b16), .val (.int (Int32.ofNat i0)), .val (.int (Int32.ofNat i1)), .val (.int (Int32.ofNat i2)), .val (.int (Int32.ofNat i3)), .val (.int (Int32.ofNat i4)), .val (.int (Int32.ofNat i5)), .val (.ref b23)] [(.ref b2), (.int (Int32.ofNat ((own_lk (own_lk (own_lk (fun i => i) i0 i1) i2 i3) i4 i5) 0)))])) _
    refine XS.iconst X82.here hx rfl (hb hby at_140) ?_
    show Steps p.tables e below (T82.setTop (mkF m 141 #[.val (.int p1), .val (.int p2), .val (.int p3), .val (.int p4), .val (.int p5), .val (.int p6), .val (.ref b2), .val (.ref b16), .val (.int (Int32.ofNat i0)), .val (.int (Int32.ofNat i1)), .val (.int (Int32.ofNat i2)), .val (.int (Int32.ofNat i3)), .val (.int (Int32.ofNat i4)), .val (.int (Int32.ofNat i5)), .val (.ref b23)] [(.int (0 : Int32)), (.ref b2), (.int (Int32.ofNat ((own_lk (own_lk (own_lk (fun i => i) i0 i1) i2 i3) i4 i5) 0)))])) _
    obtain ⟨cl89, Ar89, -, S89, M89, H89, -⟩ := (id V_b2_74_87)
    have hin89 : ¬ ((0 : Int32) < 0 ∨ cl89.slots.size ≤ ((0 : Int32)).toNatClampNeg) := inb_of S89 ⟨by decide, by decide⟩
    refine X82.iaload hx (j := (0 : Int32)) (v := (.int (Int32.ofNat ((own_lk (own_lk (own_lk (fun i => i) i0 i1) i2 i3) i4 i5) 0)))) Ar89.1 (State.isArrayOf_alike hZ.alike Ar89.2.1) Ar89.2.2 hin89 (H89.at hin89 rfl) (g := (mkF m 141 #[.val (.int p1), .val (.int p2), .val (.int p3), .val (.int p4), .val (.int p5), .val (.int p6), .val (.ref b2), .val (.ref b16), .val (.int (Int32.ofNat i0)), .val (.int (Int32.ofNat i1)), .val (.int (Int32.ofNat i2)), .val (.int (Int32.ofNat i3)), .val (.int (Int32.ofNat i4)), .val (.int (Int32.ofNat i5)), .val (.ref b23)] [(.int (0 : Int32)), (.ref b2), (.int (Int32.ofNat ((own_lk (own_lk (own_lk (fun i => i) i0 i1) i2 i3) i4 i5) 0)))])) rfl rfl (hb hby at_141) _ ?_
    show Steps p.tables e below (T82.setTop (mkF m 142 #[.val (.int p1), .val (.int p2), .val (.int p3), .val (.int p4), .val (.int p5), .val (.int p6), .val (.ref b2), .val (.ref b16), .val (.int (Int32.ofNat i0)), .val (.int (Int32.ofNat i1)), .val (.int (Int32.ofNat i2)), .val (.int (Int32.ofNat i3)), .val (.int (Int32.ofNat i4)), .val (.int (Int32.ofNat i5)), .val (.ref b23)] [(.int (Int32.ofNat ((own_lk (own_lk (own_lk (fun i => i) i0 i1) i2 i3) i4 i5) 0))), (.int (Int32.ofNat ((own_lk (own_lk (own_lk (fun i => i) i0 i1) i2 i3) i4 i5) 0)))])) _
    refine XS.icmpNo X82.here hx rfl (hb hby at_142) rfl (teq (rfl : (Int32.ofNat ((own_lk (own_lk (own_lk (fun i => i) i0 i1) i2 i3) i4 i5) 0)) = (Int32.ofNat ((own_lk (own_lk (own_lk (fun i => i) i0 i1) i2 i3) i4 i5) 0)))).2 ?_
    show Steps p.tables e below (T82.setTop (mkF m 145 #[.val (.int p1), .val (.int p2), .val (.int p3), .val (.int p4), .val (.int p5), .val (.int p6), .val (.ref b2), .val (.ref b16), .val (.int (Int32.ofNat i0)), .val (.int (Int32.ofNat i1)), .val (.int (Int32.ofNat i2)), .val (.int (Int32.ofNat i3)), .val (.int (Int32.ofNat i4)), .val (.int (Int32.ofNat i5)), .val (.ref b23)] [])) _
    refine XS.aload X82.here hx rfl (hb hby at_145) rfl rfl ?_
    show Steps p.tables e below (T82.setTop (mkF m 147 #[.val (.int p1), .val (.int p2), .val (.int p3), .val (.int p4), .val (.int p5), .val (.int p6), .val (.ref b2), .val (.ref b16), .val (.int (Int32.ofNat i0)), .val (.int (Int32.ofNat i1)), .val (.int (Int32.ofNat i2)), .val (.int (Int32.ofNat i3)), .val (.int (Int32.ofNat i4)), .val (.int (Int32.ofNat i5)), .val (.ref b23)] [(.ref b23)])) _
    refine XS.iconst X82.here hx rfl (hb hby at_147) ?_
    exact kt
  obtain ⟨cq91, kq91, q91a, q91b, q91c⟩ := isOf hZ rfl E_b23_66_83
  obtain ⟨_, _, ⟨T91, L91, k91, n91⟩, -, X91, ⟨Lc91, hQ91, l91, y91, z91⟩, st91⟩ := X82.virtualBack hx (y := (⟨"com/example/vertumnus/vertumnus/Partitions", "partitionOf", "(I)I"⟩ : MethodName)) (z := (⟨"com/example/vertumnus/vertumnus/Partitions", "partitionOf", "(I)I"⟩ : MethodName)) hown (mvT hZ (hw _ (List.mem_of_getElem? (i := 37) rfl))) (mvT hZ (hw _ (List.mem_of_getElem? (i := 20) rfl))) (notFace_of_selects (args := #[]) (mvT hZ (hw _ (List.mem_of_getElem? (i := 22) rfl)))) (mvT hZ (hw _ (List.mem_of_getElem? (i := 22) rfl))) (mvT hZ (hw _ (List.mem_of_getElem? (i := 21) rfl))) (by decide) (backOf (W := 0) (rm4 l Z a0 hw [] b23 (1 : Int32) bz_27 kz_27 pz_82 (own_lk (own_lk (own_lk (fun i => i) i0 i1) i2 i3) i4 i5) 1 T82.heap n0 Z82 F_parents_b23_82 V_bz_27_82 R27_0 ne_b23_bz_27 (R82_0) ((by decide)) (rfl)) hZ (hw _ (List.mem_of_getElem? (i := 23) rfl)) (hw _ (List.mem_of_getElem? (i := 3) rfl)) (by decide) (by decide)) q91a q91c (g := (mkF m 148 #[.val (.int p1), .val (.int p2), .val (.int p3), .val (.int p4), .val (.int p5), .val (.int p6), .val (.ref b2), .val (.ref b16), .val (.int (Int32.ofNat i0)), .val (.int (Int32.ofNat i1)), .val (.int (Int32.ofNat i2)), .val (.int (Int32.ofNat i3)), .val (.int (Int32.ofNat i4)), .val (.int (Int32.ofNat i5)), .val (.ref b23)] [(.int (1 : Int32)), (.ref b23)])) rfl (by rw [hml]; rfl) (Steps.refl _) (argsL := [(.int (1 : Int32))]) (rest := []) (lenOf pd_0 rfl) rfl (by show 2 * 0 + _ ≤ _; exact Nat.le_of_eq rfl) (hb hby at_148) (fun _ _ => ⟨rfl, rfl, (by decide : 4 + 0 ≤ _), (by decide : 11 + 0 ≤ _)⟩)
  dsimp only [Pt.U, Pt.locs, Pt.cells, Pt.slots] at X91 l91 y91 z91 st91 hQ91
  subst l91 y91 z91
  obtain ⟨pz_91, rfl, N91q, KC91, P91_0, P91_1, R91_0⟩ := hQ91
  have N91 := Fr.app N82 N91q
  have Z91 : n0 ≤ T91.heap.size := Nat.le_trans Z82 KC91.1
  have K91 : Keep h0 T91.heap [] := K82.trans KC91 (allS (Or.inr (Nat.le_trans K23.1 R27_1)) all0)
  have E_b23_66_92 := E_b23_66_83.keep KC91
  have F_parents_b23_82_93 := F_parents_b23_82.keep KC91 (ninS ne_b23_bz_27 nin0)
  have F_count_b23_66_94 := F_count_b23_66_86.keep KC91 (ninS ne_b23_bz_27 nin0)
  have V_b2_74_95 := V_b2_74_87.keep KC91 (ninS ne_b2_bz_27 nin0)
  have V_b16_74_96 := V_b16_74_88.keep KC91 (ninS ne_b16_bz_27 nin0)
  have F_parents_b23_91 : Fld Z T91.heap b23 "com/example/vertumnus/vertumnus/Partitions" "parents" "[I" (.ref bz_27) := P91_0
  have V_bz_27_91 : Arv Z T91.heap bz_27 kz_27 .int (4 : Int32) (own_l pz_91) (.int (0 : Int32)) := P91_1
  have pre91 : ∀ t, Steps p.tables e below (T91.setTop (mkF m 151 #[.val (.int p1), .val (.int p2), .val (.int p3), .val (.int p4), .val (.int p5), .val (.int p6), .val (.ref b2), .val (.ref b16), .val (.int (Int32.ofNat i0)), .val (.int (Int32.ofNat i1)), .val (.int (Int32.ofNat i2)), .val (.int (Int32.ofNat i3)), .val (.int (Int32.ofNat i4)), .val (.int (Int32.ofNat i5)), .val (.ref b23)] [(.int (Int32.ofNat ((own_lk (own_lk (own_lk (fun i => i) i0 i1) i2 i3) i4 i5) 1)))])) t → Steps p.tables e below (s₁.setTop (entryFrame m #[(.int p1), (.int p2), (.int p3), (.int p4), (.int p5), (.int p6)] maxLocals)) t := fun t kt => pre90 t (st91.trans kt)
  have pre99 : ∀ t, Steps p.tables e below (T91.setTop (mkF m 161 #[.val (.int p1), .val (.int p2), .val (.int p3), .val (.int p4), .val (.int p5), .val (.int p6), .val (.ref b2), .val (.ref b16), .val (.int (Int32.ofNat i0)), .val (.int (Int32.ofNat i1)), .val (.int (Int32.ofNat i2)), .val (.int (Int32.ofNat i3)), .val (.int (Int32.ofNat i4)), .val (.int (Int32.ofNat i5)), .val (.ref b23)] [(.int (2 : Int32)), (.ref b23)])) t → Steps p.tables e below (s₁.setTop (entryFrame m #[(.int p1), (.int p2), (.int p3), (.int p4), (.int p5), (.int p6)] maxLocals)) t := by
    intro t kt
    refine pre91 t ?_
    show Steps p.tables e below (T91.setTop (mkF m 151 #[.val (.int p1), .val (.int p2), .val (.int p3), .val (.int p4), .val (.int p5), .val (.int p6), .val (.ref b2), .val (.ref b16), .val (.int (Int32.ofNat i0)), .val (.int (Int32.ofNat i1)), .val (.int (Int32.ofNat i2)), .val (.int (Int32.ofNat i3)), .val (.int (Int32.ofNat i4)), .val (.int (Int32.ofNat i5)), .val (.ref b23)] [(.int (Int32.ofNat ((own_lk (own_lk (own_lk (fun i => i) i0 i1) i2 i3) i4 i5) 1)))])) _
    refine XS.aload X91.here hx rfl (hb hby at_151) rfl rfl ?_
    show Steps p.tables e below (T91.setTop (mkF m 153 #[.val (.int p1), .val (.int p2), .val (.int p3), .val (.int p4), .val (.int p5), .val (.int p6), .val (.ref b2), .val (.ref b16), .val (.int (Int32.ofNat i0)), .val (.int (Int32.ofNat i1)), .val (.int (Int32.ofNat i2)), .val (.int (Int32.ofNat i3)), .val (.int (Int32.ofNat i4)), .val (.int (Int32.ofNat i5)), .val (.ref b23)] [(.ref b2), (.int (Int32.ofNat ((own_lk (own_lk (own_lk (fun i => i) i0 i1) i2 i3) i4 i5) 1)))])) _
    refine XS.iconst X91.here hx rfl (hb hby at_153) ?_
    show Steps p.tables e below (T91.setTop (mkF m 154 #[.val (.int p1), .val (.int p2), .val (.int p3), .val (.int p4), .val (.int p5), .val (.int p6), .val (.ref b2), .val (.ref b16), .val (.int (Int32.ofNat i0)), .val (.int (Int32.ofNat i1)), .val (.int (Int32.ofNat i2)), .val (.int (Int32.ofNat i3)), .val (.int (Int32.ofNat i4)), .val (.int (Int32.ofNat i5)), .val (.ref b23)] [(.int (1 : Int32)), (.ref b2), (.int (Int32.ofNat ((own_lk (own_lk (own_lk (fun i => i) i0 i1) i2 i3) i4 i5) 1)))])) _
    obtain ⟨cl98, Ar98, -, S98, M98, H98, -⟩ := (id V_b2_74_95)
    have hin98 : ¬ ((1 : Int32) < 0 ∨ cl98.slots.size ≤ ((1 : Int32)).toNatClampNeg) := inb_of S98 ⟨by decide, by decide⟩
    refine X91.iaload hx (j := (1 : Int32)) (v := (.int (Int32.ofNat ((own_lk (own_lk (own_lk (fun i => i) i0 i1) i2 i3) i4 i5) 1)))) Ar98.1 (State.isArrayOf_alike hZ.alike Ar98.2.1) Ar98.2.2 hin98 (H98.at hin98 rfl) (g := (mkF m 154 #[.val (.int p1), .val (.int p2), .val (.int p3), .val (.int p4), .val (.int p5), .val (.int p6), .val (.ref b2), .val (.ref b16), .val (.int (Int32.ofNat i0)), .val (.int (Int32.ofNat i1)), .val (.int (Int32.ofNat i2)), .val (.int (Int32.ofNat i3)), .val (.int (Int32.ofNat i4)), .val (.int (Int32.ofNat i5)), .val (.ref b23)] [(.int (1 : Int32)), (.ref b2), (.int (Int32.ofNat ((own_lk (own_lk (own_lk (fun i => i) i0 i1) i2 i3) i4 i5) 1)))])) rfl rfl (hb hby at_154) _ ?_
    show Steps p.tables e below (T91.setTop (mkF m 155 #[.val (.int p1), .val (.int p2), .val (.int p3), .val (.int p4), .val (.int p5), .val (.int p6), .val (.ref b2), .val (.ref b16), .val (.int (Int32.ofNat i0)), .val (.int (Int32.ofNat i1)), .val (.int (Int32.ofNat i2)), .val (.int (Int32.ofNat i3)), .val (.int (Int32.ofNat i4)), .val (.int (Int32.ofNat i5)), .val (.ref b23)] [(.int (Int32.ofNat ((own_lk (own_lk (own_lk (fun i => i) i0 i1) i2 i3) i4 i5) 1))), (.int (Int32.ofNat ((own_lk (own_lk (own_lk (fun i => i) i0 i1) i2 i3) i4 i5) 1)))])) _
    refine XS.icmpNo X91.here hx rfl (hb hby at_155) rfl (teq (rfl : (Int32.ofNat ((own_lk (own_lk (own_lk (fun i => i) i0 i1) i2 i3) i4 i5) 1)) = (Int32.ofNat ((own_lk (own_lk (own_lk (fun i => i) i0 i1) i2 i3) i4 i5) 1)))).2 ?_
    show Steps p.tables e below (T91.setTop (mkF m 158 #[.val (.int p1), .val (.int p2), .val (.int p3), .val (.int p4), .val (.int p5), .val (.int p6), .val (.ref b2), .val (.ref b16), .val (.int (Int32.ofNat i0)), .val (.int (Int32.ofNat i1)), .val (.int (Int32.ofNat i2)), .val (.int (Int32.ofNat i3)), .val (.int (Int32.ofNat i4)), .val (.int (Int32.ofNat i5)), .val (.ref b23)] [])) _
    refine XS.aload X91.here hx rfl (hb hby at_158) rfl rfl ?_
    show Steps p.tables e below (T91.setTop (mkF m 160 #[.val (.int p1), .val (.int p2), .val (.int p3), .val (.int p4), .val (.int p5), .val (.int p6), .val (.ref b2), .val (.ref b16), .val (.int (Int32.ofNat i0)), .val (.int (Int32.ofNat i1)), .val (.int (Int32.ofNat i2)), .val (.int (Int32.ofNat i3)), .val (.int (Int32.ofNat i4)), .val (.int (Int32.ofNat i5)), .val (.ref b23)] [(.ref b23)])) _
    refine XS.iconst X91.here hx rfl (hb hby at_160) ?_
    exact kt
  obtain ⟨cq100, kq100, q100a, q100b, q100c⟩ := isOf hZ rfl E_b23_66_92
  obtain ⟨_, _, ⟨T100, L100, k100, n100⟩, -, X100, ⟨Lc100, hQ100, l100, y100, z100⟩, st100⟩ := X91.virtualBack hx (y := (⟨"com/example/vertumnus/vertumnus/Partitions", "partitionOf", "(I)I"⟩ : MethodName)) (z := (⟨"com/example/vertumnus/vertumnus/Partitions", "partitionOf", "(I)I"⟩ : MethodName)) hown (mvT hZ (hw _ (List.mem_of_getElem? (i := 37) rfl))) (mvT hZ (hw _ (List.mem_of_getElem? (i := 20) rfl))) (notFace_of_selects (args := #[]) (mvT hZ (hw _ (List.mem_of_getElem? (i := 22) rfl)))) (mvT hZ (hw _ (List.mem_of_getElem? (i := 22) rfl))) (mvT hZ (hw _ (List.mem_of_getElem? (i := 21) rfl))) (by decide) (backOf (W := 0) (rm4 l Z a0 hw [] b23 (2 : Int32) bz_27 kz_27 pz_91 (own_lk (own_lk (own_lk (fun i => i) i0 i1) i2 i3) i4 i5) 2 T91.heap n0 Z91 F_parents_b23_91 V_bz_27_91 R27_0 ne_b23_bz_27 (R91_0) ((by decide)) (rfl)) hZ (hw _ (List.mem_of_getElem? (i := 23) rfl)) (hw _ (List.mem_of_getElem? (i := 3) rfl)) (by decide) (by decide)) q100a q100c (g := (mkF m 161 #[.val (.int p1), .val (.int p2), .val (.int p3), .val (.int p4), .val (.int p5), .val (.int p6), .val (.ref b2), .val (.ref b16), .val (.int (Int32.ofNat i0)), .val (.int (Int32.ofNat i1)), .val (.int (Int32.ofNat i2)), .val (.int (Int32.ofNat i3)), .val (.int (Int32.ofNat i4)), .val (.int (Int32.ofNat i5)), .val (.ref b23)] [(.int (2 : Int32)), (.ref b23)])) rfl (by rw [hml]; rfl) (Steps.refl _) (argsL := [(.int (2 : Int32))]) (rest := []) (lenOf pd_0 rfl) rfl (by show 2 * 0 + _ ≤ _; exact Nat.le_of_eq rfl) (hb hby at_161) (fun _ _ => ⟨rfl, rfl, (by decide : 4 + 0 ≤ _), (by decide : 11 + 0 ≤ _)⟩)
  dsimp only [Pt.U, Pt.locs, Pt.cells, Pt.slots] at X100 l100 y100 z100 st100 hQ100
  subst l100 y100 z100
  obtain ⟨pz_100, rfl, N100q, KC100, P100_0, P100_1, R100_0⟩ := hQ100
  have N100 := Fr.app N91 N100q
  have Z100 : n0 ≤ T100.heap.size := Nat.le_trans Z91 KC100.1
  have K100 : Keep h0 T100.heap [] := K91.trans KC100 (allS (Or.inr (Nat.le_trans K23.1 R27_1)) all0)
  have E_b23_66_101 := E_b23_66_92.keep KC100
  have F_parents_b23_91_102 := F_parents_b23_91.keep KC100 (ninS ne_b23_bz_27 nin0)
  have F_count_b23_66_103 := F_count_b23_66_94.keep KC100 (ninS ne_b23_bz_27 nin0)
  have V_b2_74_104 := V_b2_74_95.keep KC100 (ninS ne_b2_bz_27 nin0)
  have V_b16_74_105 := V_b16_74_96.keep KC100 (ninS ne_b16_bz_27 nin0)
  have F_parents_b23_100 : Fld Z T100.heap b23 "com/example/vertumnus/vertumnus/Partitions" "parents" "[I" (.ref bz_27) := P100_0
  have V_bz_27_100 : Arv Z T100.heap bz_27 kz_27 .int (4 : Int32) (own_l pz_100) (.int (0 : Int32)) := P100_1
  have pre100 : ∀ t, Steps p.tables e below (T100.setTop (mkF m 164 #[.val (.int p1), .val (.int p2), .val (.int p3), .val (.int p4), .val (.int p5), .val (.int p6), .val (.ref b2), .val (.ref b16), .val (.int (Int32.ofNat i0)), .val (.int (Int32.ofNat i1)), .val (.int (Int32.ofNat i2)), .val (.int (Int32.ofNat i3)), .val (.int (Int32.ofNat i4)), .val (.int (Int32.ofNat i5)), .val (.ref b23)] [(.int (Int32.ofNat ((own_lk (own_lk (own_lk (fun i => i) i0 i1) i2 i3) i4 i5) 2)))])) t → Steps p.tables e below (s₁.setTop (entryFrame m #[(.int p1), (.int p2), (.int p3), (.int p4), (.int p5), (.int p6)] maxLocals)) t := fun t kt => pre99 t (st100.trans kt)
  have pre108 : ∀ t, Steps p.tables e below (T100.setTop (mkF m 174 #[.val (.int p1), .val (.int p2), .val (.int p3), .val (.int p4), .val (.int p5), .val (.int p6), .val (.ref b2), .val (.ref b16), .val (.int (Int32.ofNat i0)), .val (.int (Int32.ofNat i1)), .val (.int (Int32.ofNat i2)), .val (.int (Int32.ofNat i3)), .val (.int (Int32.ofNat i4)), .val (.int (Int32.ofNat i5)), .val (.ref b23)] [(.int (3 : Int32)), (.ref b23)])) t → Steps p.tables e below (s₁.setTop (entryFrame m #[(.int p1), (.int p2), (.int p3), (.int p4), (.int p5), (.int p6)] maxLocals)) t := by
    intro t kt
    refine pre100 t ?_
    show Steps p.tables e below (T100.setTop (mkF m 164 #[.val (.int p1), .val (.int p2), .val (.int p3), .val (.int p4), .val (.int p5), .val (.int p6), .val (.ref b2), .val (.ref b16), .val (.int (Int32.ofNat i0)), .val (.int (Int32.ofNat i1)), .val (.int (Int32.ofNat i2)), .val (.int (Int32.ofNat i3)), .val (.int (Int32.ofNat i4)), .val (.int (Int32.ofNat i5)), .val (.ref b23)] [(.int (Int32.ofNat ((own_lk (own_lk (own_lk (fun i => i) i0 i1) i2 i3) i4 i5) 2)))])) _
    refine XS.aload X100.here hx rfl (hb hby at_164) rfl rfl ?_
    show Steps p.tables e below (T100.setTop (mkF m 166 #[.val (.int p1), .val (.int p2), .val (.int p3), .val (.int p4), .val (.int p5), .val (.int p6), .val (.ref b2), .val (.ref b16), .val (.int (Int32.ofNat i0)), .val (.int (Int32.ofNat i1)), .val (.int (Int32.ofNat i2)), .val (.int (Int32.ofNat i3)), .val (.int (Int32.ofNat i4)), .val (.int (Int32.ofNat i5)), .val (.ref b23)] [(.ref b2), (.int (Int32.ofNat ((own_lk (own_lk (own_lk (fun i => i) i0 i1) i2 i3) i4 i5) 2)))])) _
    refine XS.iconst X100.here hx rfl (hb hby at_166) ?_
    show Steps p.tables e below (T100.setTop (mkF m 167 #[.val (.int p1), .val (.int p2), .val (.int p3), .val (.int p4), .val (.int p5), .val (.int p6), .val (.ref b2), .val (.ref b16), .val (.int (Int32.ofNat i0)), .val (.int (Int32.ofNat i1)), .val (.int (Int32.ofNat i2)), .val (.int (Int32.ofNat i3)), .val (.int (Int32.ofNat i4)), .val (.int (Int32.ofNat i5)), .val (.ref b23)] [(.int (2 : Int32)), (.ref b2), (.int (Int32.ofNat ((own_lk (own_lk (own_lk (fun i => i) i0 i1) i2 i3) i4 i5) 2)))])) _
    obtain ⟨cl107, Ar107, -, S107, M107, H107, -⟩ := (id V_b2_74_104)
    have hin107 : ¬ ((2 : Int32) < 0 ∨ cl107.slots.size ≤ ((2 : Int32)).toNatClampNeg) := inb_of S107 ⟨by decide, by decide⟩
    refine X100.iaload hx (j := (2 : Int32)) (v := (.int (Int32.ofNat ((own_lk (own_lk (own_lk (fun i => i) i0 i1) i2 i3) i4 i5) 2)))) Ar107.1 (State.isArrayOf_alike hZ.alike Ar107.2.1) Ar107.2.2 hin107 (H107.at hin107 rfl) (g := (mkF m 167 #[.val (.int p1), .val (.int p2), .val (.int p3), .val (.int p4), .val (.int p5), .val (.int p6), .val (.ref b2), .val (.ref b16), .val (.int (Int32.ofNat i0)), .val (.int (Int32.ofNat i1)), .val (.int (Int32.ofNat i2)), .val (.int (Int32.ofNat i3)), .val (.int (Int32.ofNat i4)), .val (.int (Int32.ofNat i5)), .val (.ref b23)] [(.int (2 : Int32)), (.ref b2), (.int (Int32.ofNat ((own_lk (own_lk (own_lk (fun i => i) i0 i1) i2 i3) i4 i5) 2)))])) rfl rfl (hb hby at_167) _ ?_
    show Steps p.tables e below (T100.setTop (mkF m 168 #[.val (.int p1), .val (.int p2), .val (.int p3), .val (.int p4), .val (.int p5), .val (.int p6), .val (.ref b2), .val (.ref b16), .val (.int (Int32.ofNat i0)), .val (.int (Int32.ofNat i1)), .val (.int (Int32.ofNat i2)), .val (.int (Int32.ofNat i3)), .val (.int (Int32.ofNat i4)), .val (.int (Int32.ofNat i5)), .val (.ref b23)] [(.int (Int32.ofNat ((own_lk (own_lk (own_lk (fun i => i) i0 i1) i2 i3) i4 i5) 2))), (.int (Int32.ofNat ((own_lk (own_lk (own_lk (fun i => i) i0 i1) i2 i3) i4 i5) 2)))])) _
    refine XS.icmpNo X100.here hx rfl (hb hby at_168) rfl (teq (rfl : (Int32.ofNat ((own_lk (own_lk (own_lk (fun i => i) i0 i1) i2 i3) i4 i5) 2)) = (Int32.ofNat ((own_lk (own_lk (own_lk (fun i => i) i0 i1) i2 i3) i4 i5) 2)))).2 ?_
    show Steps p.tables e below (T100.setTop (mkF m 171 #[.val (.int p1), .val (.int p2), .val (.int p3), .val (.int p4), .val (.int p5), .val (.int p6), .val (.ref b2), .val (.ref b16), .val (.int (Int32.ofNat i0)), .val (.int (Int32.ofNat i1)), .val (.int (Int32.ofNat i2)), .val (.int (Int32.ofNat i3)), .val (.int (Int32.ofNat i4)), .val (.int (Int32.ofNat i5)), .val (.ref b23)] [])) _
    refine XS.aload X100.here hx rfl (hb hby at_171) rfl rfl ?_
    show Steps p.tables e below (T100.setTop (mkF m 173 #[.val (.int p1), .val (.int p2), .val (.int p3), .val (.int p4), .val (.int p5), .val (.int p6), .val (.ref b2), .val (.ref b16), .val (.int (Int32.ofNat i0)), .val (.int (Int32.ofNat i1)), .val (.int (Int32.ofNat i2)), .val (.int (Int32.ofNat i3)), .val (.int (Int32.ofNat i4)), .val (.int (Int32.ofNat i5)), .val (.ref b23)] [(.ref b23)])) _
    refine XS.iconst X100.here hx rfl (hb hby at_173) ?_
    exact kt
  obtain ⟨cq109, kq109, q109a, q109b, q109c⟩ := isOf hZ rfl E_b23_66_101
  obtain ⟨_, _, ⟨T109, L109, k109, n109⟩, -, X109, ⟨Lc109, hQ109, l109, y109, z109⟩, st109⟩ := X100.virtualBack hx (y := (⟨"com/example/vertumnus/vertumnus/Partitions", "partitionOf", "(I)I"⟩ : MethodName)) (z := (⟨"com/example/vertumnus/vertumnus/Partitions", "partitionOf", "(I)I"⟩ : MethodName)) hown (mvT hZ (hw _ (List.mem_of_getElem? (i := 37) rfl))) (mvT hZ (hw _ (List.mem_of_getElem? (i := 20) rfl))) (notFace_of_selects (args := #[]) (mvT hZ (hw _ (List.mem_of_getElem? (i := 22) rfl)))) (mvT hZ (hw _ (List.mem_of_getElem? (i := 22) rfl))) (mvT hZ (hw _ (List.mem_of_getElem? (i := 21) rfl))) (by decide) (backOf (W := 0) (rm4 l Z a0 hw [] b23 (3 : Int32) bz_27 kz_27 pz_100 (own_lk (own_lk (own_lk (fun i => i) i0 i1) i2 i3) i4 i5) 3 T100.heap n0 Z100 F_parents_b23_100 V_bz_27_100 R27_0 ne_b23_bz_27 (R100_0) ((by decide)) (rfl)) hZ (hw _ (List.mem_of_getElem? (i := 23) rfl)) (hw _ (List.mem_of_getElem? (i := 3) rfl)) (by decide) (by decide)) q109a q109c (g := (mkF m 174 #[.val (.int p1), .val (.int p2), .val (.int p3), .val (.int p4), .val (.int p5), .val (.int p6), .val (.ref b2), .val (.ref b16), .val (.int (Int32.ofNat i0)), .val (.int (Int32.ofNat i1)), .val (.int (Int32.ofNat i2)), .val (.int (Int32.ofNat i3)), .val (.int (Int32.ofNat i4)), .val (.int (Int32.ofNat i5)), .val (.ref b23)] [(.int (3 : Int32)), (.ref b23)])) rfl (by rw [hml]; rfl) (Steps.refl _) (argsL := [(.int (3 : Int32))]) (rest := []) (lenOf pd_0 rfl) rfl (by show 2 * 0 + _ ≤ _; exact Nat.le_of_eq rfl) (hb hby at_174) (fun _ _ => ⟨rfl, rfl, (by decide : 4 + 0 ≤ _), (by decide : 11 + 0 ≤ _)⟩)
  dsimp only [Pt.U, Pt.locs, Pt.cells, Pt.slots] at X109 l109 y109 z109 st109 hQ109
  subst l109 y109 z109
  obtain ⟨pz_109, rfl, N109q, KC109, P109_0, P109_1, R109_0⟩ := hQ109
  have N109 := Fr.app N100 N109q
  have Z109 : n0 ≤ T109.heap.size := Nat.le_trans Z100 KC109.1
  have K109 : Keep h0 T109.heap [] := K100.trans KC109 (allS (Or.inr (Nat.le_trans K23.1 R27_1)) all0)
  have E_b23_66_110 := E_b23_66_101.keep KC109
  have F_parents_b23_100_111 := F_parents_b23_100.keep KC109 (ninS ne_b23_bz_27 nin0)
  have F_count_b23_66_112 := F_count_b23_66_103.keep KC109 (ninS ne_b23_bz_27 nin0)
  have V_b2_74_113 := V_b2_74_104.keep KC109 (ninS ne_b2_bz_27 nin0)
  have V_b16_74_114 := V_b16_74_105.keep KC109 (ninS ne_b16_bz_27 nin0)
  have F_parents_b23_109 : Fld Z T109.heap b23 "com/example/vertumnus/vertumnus/Partitions" "parents" "[I" (.ref bz_27) := P109_0
  have V_bz_27_109 : Arv Z T109.heap bz_27 kz_27 .int (4 : Int32) (own_l pz_109) (.int (0 : Int32)) := P109_1
  have pre109 : ∀ t, Steps p.tables e below (T109.setTop (mkF m 177 #[.val (.int p1), .val (.int p2), .val (.int p3), .val (.int p4), .val (.int p5), .val (.int p6), .val (.ref b2), .val (.ref b16), .val (.int (Int32.ofNat i0)), .val (.int (Int32.ofNat i1)), .val (.int (Int32.ofNat i2)), .val (.int (Int32.ofNat i3)), .val (.int (Int32.ofNat i4)), .val (.int (Int32.ofNat i5)), .val (.ref b23)] [(.int (Int32.ofNat ((own_lk (own_lk (own_lk (fun i => i) i0 i1) i2 i3) i4 i5) 3)))])) t → Steps p.tables e below (s₁.setTop (entryFrame m #[(.int p1), (.int p2), (.int p3), (.int p4), (.int p5), (.int p6)] maxLocals)) t := fun t kt => pre108 t (st109.trans kt)
  have pre117 : ∀ t, Steps p.tables e below (T109.setTop (mkF m 186 #[.val (.int p1), .val (.int p2), .val (.int p3), .val (.int p4), .val (.int p5), .val (.int p6), .val (.ref b2), .val (.ref b16), .val (.int (Int32.ofNat i0)), .val (.int (Int32.ofNat i1)), .val (.int (Int32.ofNat i2)), .val (.int (Int32.ofNat i3)), .val (.int (Int32.ofNat i4)), .val (.int (Int32.ofNat i5)), .val (.ref b23)] [(.ref b23)])) t → Steps p.tables e below (s₁.setTop (entryFrame m #[(.int p1), (.int p2), (.int p3), (.int p4), (.int p5), (.int p6)] maxLocals)) t := by
    intro t kt
    refine pre109 t ?_
    show Steps p.tables e below (T109.setTop (mkF m 177 #[.val (.int p1), .val (.int p2), .val (.int p3), .val (.int p4), .val (.int p5), .val (.int p6), .val (.ref b2), .val (.ref b16), .val (.int (Int32.ofNat i0)), .val (.int (Int32.ofNat i1)), .val (.int (Int32.ofNat i2)), .val (.int (Int32.ofNat i3)), .val (.int (Int32.ofNat i4)), .val (.int (Int32.ofNat i5)), .val (.ref b23)] [(.int (Int32.ofNat ((own_lk (own_lk (own_lk (fun i => i) i0 i1) i2 i3) i4 i5) 3)))])) _
    refine XS.aload X109.here hx rfl (hb hby at_177) rfl rfl ?_
    show Steps p.tables e below (T109.setTop (mkF m 179 #[.val (.int p1), .val (.int p2), .val (.int p3), .val (.int p4), .val (.int p5), .val (.int p6), .val (.ref b2), .val (.ref b16), .val (.int (Int32.ofNat i0)), .val (.int (Int32.ofNat i1)), .val (.int (Int32.ofNat i2)), .val (.int (Int32.ofNat i3)), .val (.int (Int32.ofNat i4)), .val (.int (Int32.ofNat i5)), .val (.ref b23)] [(.ref b2), (.int (Int32.ofNat ((own_lk (own_lk (own_lk (fun i => i) i0 i1) i2 i3) i4 i5) 3)))])) _
    refine XS.iconst X109.here hx rfl (hb hby at_179) ?_
    show Steps p.tables e below (T109.setTop (mkF m 180 #[.val (.int p1), .val (.int p2), .val (.int p3), .val (.int p4), .val (.int p5), .val (.int p6), .val (.ref b2), .val (.ref b16), .val (.int (Int32.ofNat i0)), .val (.int (Int32.ofNat i1)), .val (.int (Int32.ofNat i2)), .val (.int (Int32.ofNat i3)), .val (.int (Int32.ofNat i4)), .val (.int (Int32.ofNat i5)), .val (.ref b23)] [(.int (3 : Int32)), (.ref b2), (.int (Int32.ofNat ((own_lk (own_lk (own_lk (fun i => i) i0 i1) i2 i3) i4 i5) 3)))])) _
    obtain ⟨cl116, Ar116, -, S116, M116, H116, -⟩ := (id V_b2_74_113)
    have hin116 : ¬ ((3 : Int32) < 0 ∨ cl116.slots.size ≤ ((3 : Int32)).toNatClampNeg) := inb_of S116 ⟨by decide, by decide⟩
    refine X109.iaload hx (j := (3 : Int32)) (v := (.int (Int32.ofNat ((own_lk (own_lk (own_lk (fun i => i) i0 i1) i2 i3) i4 i5) 3)))) Ar116.1 (State.isArrayOf_alike hZ.alike Ar116.2.1) Ar116.2.2 hin116 (H116.at hin116 rfl) (g := (mkF m 180 #[.val (.int p1), .val (.int p2), .val (.int p3), .val (.int p4), .val (.int p5), .val (.int p6), .val (.ref b2), .val (.ref b16), .val (.int (Int32.ofNat i0)), .val (.int (Int32.ofNat i1)), .val (.int (Int32.ofNat i2)), .val (.int (Int32.ofNat i3)), .val (.int (Int32.ofNat i4)), .val (.int (Int32.ofNat i5)), .val (.ref b23)] [(.int (3 : Int32)), (.ref b2), (.int (Int32.ofNat ((own_lk (own_lk (own_lk (fun i => i) i0 i1) i2 i3) i4 i5) 3)))])) rfl rfl (hb hby at_180) _ ?_
    show Steps p.tables e below (T109.setTop (mkF m 181 #[.val (.int p1), .val (.int p2), .val (.int p3), .val (.int p4), .val (.int p5), .val (.int p6), .val (.ref b2), .val (.ref b16), .val (.int (Int32.ofNat i0)), .val (.int (Int32.ofNat i1)), .val (.int (Int32.ofNat i2)), .val (.int (Int32.ofNat i3)), .val (.int (Int32.ofNat i4)), .val (.int (Int32.ofNat i5)), .val (.ref b23)] [(.int (Int32.ofNat ((own_lk (own_lk (own_lk (fun i => i) i0 i1) i2 i3) i4 i5) 3))), (.int (Int32.ofNat ((own_lk (own_lk (own_lk (fun i => i) i0 i1) i2 i3) i4 i5) 3)))])) _
    refine XS.icmpNo X109.here hx rfl (hb hby at_181) rfl (teq (rfl : (Int32.ofNat ((own_lk (own_lk (own_lk (fun i => i) i0 i1) i2 i3) i4 i5) 3)) = (Int32.ofNat ((own_lk (own_lk (own_lk (fun i => i) i0 i1) i2 i3) i4 i5) 3)))).2 ?_
    show Steps p.tables e below (T109.setTop (mkF m 184 #[.val (.int p1), .val (.int p2), .val (.int p3), .val (.int p4), .val (.int p5), .val (.int p6), .val (.ref b2), .val (.ref b16), .val (.int (Int32.ofNat i0)), .val (.int (Int32.ofNat i1)), .val (.int (Int32.ofNat i2)), .val (.int (Int32.ofNat i3)), .val (.int (Int32.ofNat i4)), .val (.int (Int32.ofNat i5)), .val (.ref b23)] [])) _
    refine XS.aload X109.here hx rfl (hb hby at_184) rfl rfl ?_
    exact kt
  obtain ⟨cq118, kq118, q118a, q118b, q118c⟩ := isOf hZ rfl E_b23_66_110
  obtain ⟨_, _, ⟨T118, L118, k118, n118⟩, -, X118, ⟨Lc118, hQ118, l118, y118, z118⟩, st118⟩ := X109.virtualBack hx (y := (⟨"com/example/vertumnus/vertumnus/Partitions", "count", "()I"⟩ : MethodName)) (z := (⟨"com/example/vertumnus/vertumnus/Partitions", "count", "()I"⟩ : MethodName)) hown (mvT hZ (hw _ (List.mem_of_getElem? (i := 38) rfl))) (mvT hZ (hw _ (List.mem_of_getElem? (i := 39) rfl))) (notFace_of_selects (args := #[]) (mvT hZ (hw _ (List.mem_of_getElem? (i := 41) rfl)))) (mvT hZ (hw _ (List.mem_of_getElem? (i := 41) rfl))) (mvT hZ (hw _ (List.mem_of_getElem? (i := 40) rfl))) (by decide) (backOf (W := 0) (rm8 l Z a0 hw [] b23 (if (own_lk (own_lk (fun i => i) i0 i1) i2 i3) i4 = (own_lk (own_lk (fun i => i) i0 i1) i2 i3) i5 then (if (own_lk (fun i => i) i0 i1) i2 = (own_lk (fun i => i) i0 i1) i3 then (if (fun i => i) i0 = (fun i => i) i1 then (4 : Int32) else (4 : Int32) - 1) else (if (fun i => i) i0 = (fun i => i) i1 then (4 : Int32) else (4 : Int32) - 1) - 1) else (if (own_lk (fun i => i) i0 i1) i2 = (own_lk (fun i => i) i0 i1) i3 then (if (fun i => i) i0 = (fun i => i) i1 then (4 : Int32) else (4 : Int32) - 1) else (if (fun i => i) i0 = (fun i => i) i1 then (4 : Int32) else (4 : Int32) - 1) - 1) - 1) T109.heap n0 Z109 F_count_b23_66_112) hZ (hw _ (List.mem_of_getElem? (i := 42) rfl)) (hw _ (List.mem_of_getElem? (i := 3) rfl)) (by decide) (by decide)) q118a q118c (g := (mkF m 186 #[.val (.int p1), .val (.int p2), .val (.int p3), .val (.int p4), .val (.int p5), .val (.int p6), .val (.ref b2), .val (.ref b16), .val (.int (Int32.ofNat i0)), .val (.int (Int32.ofNat i1)), .val (.int (Int32.ofNat i2)), .val (.int (Int32.ofNat i3)), .val (.int (Int32.ofNat i4)), .val (.int (Int32.ofNat i5)), .val (.ref b23)] [(.ref b23)])) rfl (by rw [hml]; rfl) (Steps.refl _) (argsL := []) (rest := []) (lenOf pd_5 rfl) rfl (by show 2 * 0 + _ ≤ _; exact Nat.le_of_eq rfl) (hb hby at_186) (fun _ _ => ⟨rfl, rfl, (by decide : 4 + 0 ≤ _), (by decide : 11 + 0 ≤ _)⟩)
  dsimp only [Pt.U, Pt.locs, Pt.cells, Pt.slots] at X118 l118 y118 z118 st118 hQ118
  subst l118 y118 z118
  obtain ⟨rfl, N118q, e118⟩ := hQ118
  have N118 := Fr.app N109 N118q
  have pre118 : ∀ t, Steps p.tables e below (T118.setTop (mkF m 189 #[.val (.int p1), .val (.int p2), .val (.int p3), .val (.int p4), .val (.int p5), .val (.int p6), .val (.ref b2), .val (.ref b16), .val (.int (Int32.ofNat i0)), .val (.int (Int32.ofNat i1)), .val (.int (Int32.ofNat i2)), .val (.int (Int32.ofNat i3)), .val (.int (Int32.ofNat i4)), .val (.int (Int32.ofNat i5)), .val (.ref b23)] [(.int (if (own_lk (own_lk (fun i => i) i0 i1) i2 i3) i4 = (own_lk (own_lk (fun i => i) i0 i1) i2 i3) i5 then (if (own_lk (fun i => i) i0 i1) i2 = (own_lk (fun i => i) i0 i1) i3 then (if (fun i => i) i0 = (fun i => i) i1 then (4 : Int32) else (4 : Int32) - 1) else (if (fun i => i) i0 = (fun i => i) i1 then (4 : Int32) else (4 : Int32) - 1) - 1) else (if (own_lk (fun i => i) i0 i1) i2 = (own_lk (fun i => i) i0 i1) i3 then (if (fun i => i) i0 = (fun i => i) i1 then (4 : Int32) else (4 : Int32) - 1) else (if (fun i => i) i0 = (fun i => i) i1 then (4 : Int32) else (4 : Int32) - 1) - 1) - 1))])) t → Steps p.tables e below (s₁.setTop (entryFrame m #[(.int p1), (.int p2), (.int p3), (.int p4), (.int p5), (.int p6)] maxLocals)) t := fun t kt => pre117 t (st118.trans kt)
  have pre120 : ∀ t, Steps p.tables e below (T118.setTop (mkF m 201 #[.val (.int p1), .val (.int p2), .val (.int p3), .val (.int p4), .val (.int p5), .val (.int p6), .val (.ref b2), .val (.ref b16), .val (.int (Int32.ofNat i0)), .val (.int (Int32.ofNat i1)), .val (.int (Int32.ofNat i2)), .val (.int (Int32.ofNat i3)), .val (.int (Int32.ofNat i4)), .val (.int (Int32.ofNat i5)), .val (.ref b23)] [(.int (1 : Int32))])) t → Steps p.tables e below (s₁.setTop (entryFrame m #[(.int p1), (.int p2), (.int p3), (.int p4), (.int p5), (.int p6)] maxLocals)) t := by
    intro t kt
    refine pre118 t ?_
    show Steps p.tables e below (T118.setTop (mkF m 189 #[.val (.int p1), .val (.int p2), .val (.int p3), .val (.int p4), .val (.int p5), .val (.int p6), .val (.ref b2), .val (.ref b16), .val (.int (Int32.ofNat i0)), .val (.int (Int32.ofNat i1)), .val (.int (Int32.ofNat i2)), .val (.int (Int32.ofNat i3)), .val (.int (Int32.ofNat i4)), .val (.int (Int32.ofNat i5)), .val (.ref b23)] [(.int (if (own_lk (own_lk (fun i => i) i0 i1) i2 i3) i4 = (own_lk (own_lk (fun i => i) i0 i1) i2 i3) i5 then (if (own_lk (fun i => i) i0 i1) i2 = (own_lk (fun i => i) i0 i1) i3 then (if (fun i => i) i0 = (fun i => i) i1 then (4 : Int32) else (4 : Int32) - 1) else (if (fun i => i) i0 = (fun i => i) i1 then (4 : Int32) else (4 : Int32) - 1) - 1) else (if (own_lk (fun i => i) i0 i1) i2 = (own_lk (fun i => i) i0 i1) i3 then (if (fun i => i) i0 = (fun i => i) i1 then (4 : Int32) else (4 : Int32) - 1) else (if (fun i => i) i0 = (fun i => i) i1 then (4 : Int32) else (4 : Int32) - 1) - 1) - 1))])) _
    refine XS.aload X118.here hx rfl (hb hby at_189) rfl rfl ?_
    show Steps p.tables e below (T118.setTop (mkF m 191 #[.val (.int p1), .val (.int p2), .val (.int p3), .val (.int p4), .val (.int p5), .val (.int p6), .val (.ref b2), .val (.ref b16), .val (.int (Int32.ofNat i0)), .val (.int (Int32.ofNat i1)), .val (.int (Int32.ofNat i2)), .val (.int (Int32.ofNat i3)), .val (.int (Int32.ofNat i4)), .val (.int (Int32.ofNat i5)), .val (.ref b23)] [(.ref b16), (.int (if (own_lk (own_lk (fun i => i) i0 i1) i2 i3) i4 = (own_lk (own_lk (fun i => i) i0 i1) i2 i3) i5 then (if (own_lk (fun i => i) i0 i1) i2 = (own_lk (fun i => i) i0 i1) i3 then (if (fun i => i) i0 = (fun i => i) i1 then (4 : Int32) else (4 : Int32) - 1) else (if (fun i => i) i0 = (fun i => i) i1 then (4 : Int32) else (4 : Int32) - 1) - 1) else (if (own_lk (fun i => i) i0 i1) i2 = (own_lk (fun i => i) i0 i1) i3 then (if (fun i => i) i0 = (fun i => i) i1 then (4 : Int32) else (4 : Int32) - 1) else (if (fun i => i) i0 = (fun i => i) i1 then (4 : Int32) else (4 : Int32) - 1) - 1) - 1))])) _
    refine XS.iconst X118.here hx rfl (hb hby at_191) ?_
    show Steps p.tables e below (T118.setTop (mkF m 192 #[.val (.int p1), .val (.int p2), .val (.int p3), .val (.int p4), .val (.int p5), .val (.int p6), .val (.ref b2), .val (.ref b16), .val (.int (Int32.ofNat i0)), .val (.int (Int32.ofNat i1)), .val (.int (Int32.ofNat i2)), .val (.int (Int32.ofNat i3)), .val (.int (Int32.ofNat i4)), .val (.int (Int32.ofNat i5)), .val (.ref b23)] [(.int (0 : Int32)), (.ref b16), (.int (if (own_lk (own_lk (fun i => i) i0 i1) i2 i3) i4 = (own_lk (own_lk (fun i => i) i0 i1) i2 i3) i5 then (if (own_lk (fun i => i) i0 i1) i2 = (own_lk (fun i => i) i0 i1) i3 then (if (fun i => i) i0 = (fun i => i) i1 then (4 : Int32) else (4 : Int32) - 1) else (if (fun i => i) i0 = (fun i => i) i1 then (4 : Int32) else (4 : Int32) - 1) - 1) else (if (own_lk (fun i => i) i0 i1) i2 = (own_lk (fun i => i) i0 i1) i3 then (if (fun i => i) i0 = (fun i => i) i1 then (4 : Int32) else (4 : Int32) - 1) else (if (fun i => i) i0 = (fun i => i) i1 then (4 : Int32) else (4 : Int32) - 1) - 1) - 1))])) _
    obtain ⟨cl119, Ar119, -, S119, M119, H119, -⟩ := (id V_b16_74_114)
    have hin119 : ¬ ((0 : Int32) < 0 ∨ cl119.slots.size ≤ ((0 : Int32)).toNatClampNeg) := inb_of S119 ⟨by decide, by decide⟩
    refine X118.iaload hx (j := (0 : Int32)) (v := (.int (if (own_lk (own_lk (fun i => i) i0 i1) i2 i3) i4 = (own_lk (own_lk (fun i => i) i0 i1) i2 i3) i5 then (if (own_lk (fun i => i) i0 i1) i2 = (own_lk (fun i => i) i0 i1) i3 then (if (fun i => i) i0 = (fun i => i) i1 then (4 : Int32) else (4 : Int32) - 1) else (if (fun i => i) i0 = (fun i => i) i1 then (4 : Int32) else (4 : Int32) - 1) - 1) else (if (own_lk (fun i => i) i0 i1) i2 = (own_lk (fun i => i) i0 i1) i3 then (if (fun i => i) i0 = (fun i => i) i1 then (4 : Int32) else (4 : Int32) - 1) else (if (fun i => i) i0 = (fun i => i) i1 then (4 : Int32) else (4 : Int32) - 1) - 1) - 1))) (by rw [e118]; exact Ar119.1) (State.isArrayOf_alike hZ.alike Ar119.2.1) Ar119.2.2 hin119 (H119.at hin119 rfl) (g := (mkF m 192 #[.val (.int p1), .val (.int p2), .val (.int p3), .val (.int p4), .val (.int p5), .val (.int p6), .val (.ref b2), .val (.ref b16), .val (.int (Int32.ofNat i0)), .val (.int (Int32.ofNat i1)), .val (.int (Int32.ofNat i2)), .val (.int (Int32.ofNat i3)), .val (.int (Int32.ofNat i4)), .val (.int (Int32.ofNat i5)), .val (.ref b23)] [(.int (0 : Int32)), (.ref b16), (.int (if (own_lk (own_lk (fun i => i) i0 i1) i2 i3) i4 = (own_lk (own_lk (fun i => i) i0 i1) i2 i3) i5 then (if (own_lk (fun i => i) i0 i1) i2 = (own_lk (fun i => i) i0 i1) i3 then (if (fun i => i) i0 = (fun i => i) i1 then (4 : Int32) else (4 : Int32) - 1) else (if (fun i => i) i0 = (fun i => i) i1 then (4 : Int32) else (4 : Int32) - 1) - 1) else (if (own_lk (fun i => i) i0 i1) i2 = (own_lk (fun i => i) i0 i1) i3 then (if (fun i => i) i0 = (fun i => i) i1 then (4 : Int32) else (4 : Int32) - 1) else (if (fun i => i) i0 = (fun i => i) i1 then (4 : Int32) else (4 : Int32) - 1) - 1) - 1))])) rfl rfl (hb hby at_192) _ ?_
    show Steps p.tables e below (T118.setTop (mkF m 193 #[.val (.int p1), .val (.int p2), .val (.int p3), .val (.int p4), .val (.int p5), .val (.int p6), .val (.ref b2), .val (.ref b16), .val (.int (Int32.ofNat i0)), .val (.int (Int32.ofNat i1)), .val (.int (Int32.ofNat i2)), .val (.int (Int32.ofNat i3)), .val (.int (Int32.ofNat i4)), .val (.int (Int32.ofNat i5)), .val (.ref b23)] [(.int (if (own_lk (own_lk (fun i => i) i0 i1) i2 i3) i4 = (own_lk (own_lk (fun i => i) i0 i1) i2 i3) i5 then (if (own_lk (fun i => i) i0 i1) i2 = (own_lk (fun i => i) i0 i1) i3 then (if (fun i => i) i0 = (fun i => i) i1 then (4 : Int32) else (4 : Int32) - 1) else (if (fun i => i) i0 = (fun i => i) i1 then (4 : Int32) else (4 : Int32) - 1) - 1) else (if (own_lk (fun i => i) i0 i1) i2 = (own_lk (fun i => i) i0 i1) i3 then (if (fun i => i) i0 = (fun i => i) i1 then (4 : Int32) else (4 : Int32) - 1) else (if (fun i => i) i0 = (fun i => i) i1 then (4 : Int32) else (4 : Int32) - 1) - 1) - 1)), (.int (if (own_lk (own_lk (fun i => i) i0 i1) i2 i3) i4 = (own_lk (own_lk (fun i => i) i0 i1) i2 i3) i5 then (if (own_lk (fun i => i) i0 i1) i2 = (own_lk (fun i => i) i0 i1) i3 then (if (fun i => i) i0 = (fun i => i) i1 then (4 : Int32) else (4 : Int32) - 1) else (if (fun i => i) i0 = (fun i => i) i1 then (4 : Int32) else (4 : Int32) - 1) - 1) else (if (own_lk (fun i => i) i0 i1) i2 = (own_lk (fun i => i) i0 i1) i3 then (if (fun i => i) i0 = (fun i => i) i1 then (4 : Int32) else (4 : Int32) - 1) else (if (fun i => i) i0 = (fun i => i) i1 then (4 : Int32) else (4 : Int32) - 1) - 1) - 1))])) _
    refine XS.icmpNo X118.here hx rfl (hb hby at_193) rfl (teq (rfl : (if (own_lk (own_lk (fun i => i) i0 i1) i2 i3) i4 = (own_lk (own_lk (fun i => i) i0 i1) i2 i3) i5 then (if (own_lk (fun i => i) i0 i1) i2 = (own_lk (fun i => i) i0 i1) i3 then (if (fun i => i) i0 = (fun i => i) i1 then (4 : Int32) else (4 : Int32) - 1) else (if (fun i => i) i0 = (fun i => i) i1 then (4 : Int32) else (4 : Int32) - 1) - 1) else (if (own_lk (fun i => i) i0 i1) i2 = (own_lk (fun i => i) i0 i1) i3 then (if (fun i => i) i0 = (fun i => i) i1 then (4 : Int32) else (4 : Int32) - 1) else (if (fun i => i) i0 = (fun i => i) i1 then (4 : Int32) else (4 : Int32) - 1) - 1) - 1) = (if (own_lk (own_lk (fun i => i) i0 i1) i2 i3) i4 = (own_lk (own_lk (fun i => i) i0 i1) i2 i3) i5 then (if (own_lk (fun i => i) i0 i1) i2 = (own_lk (fun i => i) i0 i1) i3 then (if (fun i => i) i0 = (fun i => i) i1 then (4 : Int32) else (4 : Int32) - 1) else (if (fun i => i) i0 = (fun i => i) i1 then (4 : Int32) else (4 : Int32) - 1) - 1) else (if (own_lk (fun i => i) i0 i1) i2 = (own_lk (fun i => i) i0 i1) i3 then (if (fun i => i) i0 = (fun i => i) i1 then (4 : Int32) else (4 : Int32) - 1) else (if (fun i => i) i0 = (fun i => i) i1 then (4 : Int32) else (4 : Int32) - 1) - 1) - 1))).2 ?_
    show Steps p.tables e below (T118.setTop (mkF m 196 #[.val (.int p1), .val (.int p2), .val (.int p3), .val (.int p4), .val (.int p5), .val (.int p6), .val (.ref b2), .val (.ref b16), .val (.int (Int32.ofNat i0)), .val (.int (Int32.ofNat i1)), .val (.int (Int32.ofNat i2)), .val (.int (Int32.ofNat i3)), .val (.int (Int32.ofNat i4)), .val (.int (Int32.ofNat i5)), .val (.ref b23)] [])) _
    refine XS.iconst X118.here hx rfl (hb hby at_196) ?_
    show Steps p.tables e below (T118.setTop (mkF m 197 #[.val (.int p1), .val (.int p2), .val (.int p3), .val (.int p4), .val (.int p5), .val (.int p6), .val (.ref b2), .val (.ref b16), .val (.int (Int32.ofNat i0)), .val (.int (Int32.ofNat i1)), .val (.int (Int32.ofNat i2)), .val (.int (Int32.ofNat i3)), .val (.int (Int32.ofNat i4)), .val (.int (Int32.ofNat i5)), .val (.ref b23)] [(.int (1 : Int32))])) _
    refine XS.goto X118.here hx rfl (pc0 := 197) (pc' := 201) rfl (hb hby at_197) (by decide) (by decide) ?_
    exact kt
  obtain ⟨fs, hr, hrun, hended, hW, hsame⟩ := X118.leave (v := some (.int (1 : Int32))) (fun h => by rw [Bd.returns] at h; cases h)
  refine ⟨_, _, pre120 _ ?_, hrun, hended, _, _, rfl, ?_, ⟨_, rfl⟩, hW, hsame.mono (by decide) (by decide)⟩
  · show Steps p.tables e below (T118.setTop (mkF m 201 #[.val (.int p1), .val (.int p2), .val (.int p3), .val (.int p4), .val (.int p5), .val (.int p6), .val (.ref b2), .val (.ref b16), .val (.int (Int32.ofNat i0)), .val (.int (Int32.ofNat i1)), .val (.int (Int32.ofNat i2)), .val (.int (Int32.ofNat i3)), .val (.int (Int32.ofNat i4)), .val (.int (Int32.ofNat i5)), .val (.ref b23)] [(.int (1 : Int32))])) _
    exact retN X118 hx (t := .boolean) Bd.returns (by simp) (hb hby at_201) hr
  · show Q0 n0 _ T118.heap _
    rw [e118]
    exact ⟨rfl, N118⟩
set_option maxRecDepth 65536 in
set_option maxHeartbeats 40000000 in
theorem comes_1 {Post : Tables → Env → Array Value → State → Outcome → State → Prop} (hpost : ∀ tb e args s v u, (limb_1_1.after args s (.returned v) u = true ∧ limb_1_2.after args s (.returned v) u = true ∧ True) → FrameEnd s (.returned v) u (Jvm.fieldLocs frame_1_writes args s ++ Jvm.arrayLocs frame_1_arrays args s ++ Jvm.staticLocs frame_1_statics s) 16 128 → Post tb e args s (.returned v) u) :
    ArmFor flags0 classFile x code maxLocals ret World_1 tables_1 room_1 Calls_1 rest_1 Pre_1 Post := by
  intro l hfl _ _ p e ha hc hk s m args below hf hA hF happ hP
  obtain ⟨hcalls, hrest, hpre⟩ := hP
  obtain ⟨-, -, -, hnamed, -, -, -, hat⟩ := (Spec.applies_iff hf).mp happ
  obtain ⟨hg, hn⟩ := and_e (Cond.before_iff.mp (show (Jvm.Cond.and given_1 narrow_1).before args s = true from hpre))
  obtain ⟨g1, g2⟩ := and_e hg
  obtain ⟨g3, g4⟩ := and_e g2
  obtain ⟨g5, g6⟩ := and_e g4
  obtain ⟨g7, g8⟩ := and_e g6
  obtain ⟨g9, g10⟩ := and_e g8
  obtain ⟨g11, g12⟩ := and_e g10
  obtain ⟨w0, w1, w2, w3, w4, w5, rfl⟩ : ∃ w0 w1 w2 w3 w4 w5 : Value, args = #[w0, w1, w2, w3, w4, w5] := by
    have hs : args.size = 6 := by simpa [Cond.value, given_1] using g1
    obtain ⟨L⟩ := args
    match L, hs with
    | [w0, w1, w2, w3, w4, w5], _ => exact ⟨w0, w1, w2, w3, w4, w5, rfl⟩
  have hw := fun d (hd : d ∈ tables_1) => atoms_spec (ws := Jvm.Cond.code x code maxLocals ret :: tables_1) hat d (List.mem_cons_of_mem _ hd)
  have hfit : Fit s := fun {y c} hc i hi => by
    obtain ⟨ha, rfl⟩ := Array.getElem?_eq_some_iff.mp hc
    have q := List.all_eq_true.mp ((Array.all_eq_true_iff_forall_mem.mp hF) _ (Array.getElem_mem ha)) i (List.mem_range.mpr hi)
    simpa [Array.getElem?_eq_getElem hi] using q
  obtain ⟨i0, ei0⟩ := is_v g3
  obtain rfl : w0 = (.int i0) := Option.some.inj ei0
  obtain ⟨i1, ei1⟩ := is_v g5
  obtain rfl : w1 = (.int i1) := Option.some.inj ei1
  obtain ⟨i2, ei2⟩ := is_v g7
  obtain rfl : w2 = (.int i2) := Option.some.inj ei2
  obtain ⟨i3, ei3⟩ := is_v g9
  obtain rfl : w3 = (.int i3) := Option.some.inj ei3
  obtain ⟨i4, ei4⟩ := is_v g11
  obtain rfl : w4 = (.int i4) := Option.some.inj ei4
  obtain ⟨i5, ei5⟩ := is_v g12
  obtain rfl : w5 = (.int i5) := Option.some.inj ei5
  obtain ⟨n, o, h1, h2, h3, _, L, rfl, ⟨rfl, N⟩, hq⟩ := rm0 l s _ hw tables_1 i0 i1 i2 i3 i4 i5  s.heap s.heap.size (Nat.le_refl _)  p e ha hc hk s m _ below hf ((Spec.applies_iff_loose hf).mp happ).1 ⟨rfl, State.Warmed39.refl s, rfl⟩ trivial
  refine ⟨n, _, h1, h2, h3, hpost _ _ _ _ _ _ ⟨Cond.after_iff.mpr rfl, Cond.after_iff.mpr (eq_i res_at (Term.int_eval (1)) rfl), trivial⟩ ⟨hq.1, hq.2.1, (hq.2.2.sift fun y hy => Or.inr (N y hy)).mono (by decide) (by decide)⟩⟩
theorem main_1_1 : Claimed_1_1 := comes_1 fun _ _ _ _ _ _ h hF => ⟨h.1, hF⟩
theorem main_1_2 : Claimed_1_2 := comes_1 fun _ _ _ _ _ _ h hF => ⟨h.2.1, hF⟩
end Jvm.Pilot.@@N@@
namespace Jvm.Pilot.@@N@@
open Jvm Jvm.ClassFile Sem Op Lib Jvm.Free Jvm.Stand Jvm.Pilot.@@N@@.Jvm.D
/-! MADE BY PROGRAM (witnessworld.py) out of the Statement's table words and the real class files: 10 classes; the members and pool entries that the words name. The judged class is class 1, her method 1. -/
namespace start1
open Jvm.ClassFile
def u (s : String) : CpInfo := .utf8 (stringToUtf16 s)
/-- a pool by its gaps: so many unusable entries, then the entry; so many at the end -/
def gap : Nat → List CpInfo → List CpInfo
  | 0, r => r
  | n + 1, r => .unusable :: gap n r
def poolList (es : List (Nat × CpInfo)) (last : Nat) : List CpInfo := es.foldr (fun e r => gap e.1 (e.2 :: r)) (gap last [])
def pool (es : List (Nat × CpInfo)) (last : Nat) : Array CpInfo := ⟨poolList es last⟩
def fileOf (pool : Array CpInfo) (this : Nat) (attrs : Array Attribute := #[]) (ms : Array MethodInfo := #[]) (fl : Nat := 33) (sup : Nat := 0) (ifs : Array Nat := #[]) (fds : Array FieldInfo := #[]) : ClassFile where
  minorVersion := 0
  majorVersion := 65
  constantPool := pool
  accessFlags := fl
  thisClass := this
  superClass := sup
  interfaces := ifs
  fields := fds
  methods := ms
  attributes := attrs
def plain (name : String) (sup : Option ClassId) : Class where
  name := name
  kind := .ordinary
  loader := none
  accessFlags := 33
  super := sup
  interfaces := #[]
  cf := none
  fields := #[]
  methods := #[]
  instanceTypes := #[]
  staticTypes := #[]
  resolved := #[]
  callSites := []
  init := .initialized
  statics := none
  mirror := none

def pool0 : Array CpInfo := pool [(5, u "<init>"), (0, u "()V"), (1, .class_ 10), (1, u "java/lang/Object")] 113

def k0c0 : Code := { maxStack := 0, maxLocals := 1, code := object_method_1_code, exceptionTable := #[], attributes := #[] }
def k0m0 : Method := { name := "<init>", desc := "()V", sig := { parameters := [], returnType := none }, accessFlags := 1, code := some k0c0 }
/-- java/lang/Object -/
def k0 : Class := { plain "java/lang/Object" none with
  accessFlags := 33
  interfaces := #[]
  cf := some (fileOf pool0 8 #[] #[{ accessFlags := 1, nameIndex := 5, descriptorIndex := 6, attributes := #[] }] 33 0 #[] #[])
  fields := #[]
  methods := #[k0m0]
  instanceTypes := #[]
  staticTypes := #[]
  resolved := Array.replicate 124 none
  statics := none }

def pool1 : Array CpInfo := pool [(2, .class_ 4), (1, u "java/lang/Object"), (0, u "<init>"), (0, u "()V"), (0, .class_ 8), (0, u "com/example/vertumnus/vertumnus/Partitions"), (0, .methodref 7 10), (0, .nameAndType 5 11), (0, u "(I)V"), (0, .methodref 7 13), (0, .nameAndType 14 15), (0, u "link"), (0, u "(II)V"), (0, .methodref 17 18), (0, .class_ 19), (0, .nameAndType 20 21), (0, u "com/example/vertumnus/vertumnus/PartitionsLinkPinLaw"), (0, u "merge"), (0, u "([I[III)V"), (0, .methodref 7 23), (0, .nameAndType 24 25), (0, u "partitionOf"), (0, u "(I)I"), (0, .methodref 7 27), (0, .nameAndType 28 29), (0, u "count"), (0, u "()I"), (0, .methodref 31 32), (0, .class_ 33), (0, .nameAndType 34 35), (0, u "java/lang/Math"), (0, u "min"), (0, u "(II)I"), (0, .methodref 31 37), (0, .nameAndType 38 35), (0, u "max"), (2, u "law"), (0, u "(IIIIII)Z")] 5

def k1m0 : Method := { name := "<init>", desc := "()V", sig := { parameters := [], returnType := none }, accessFlags := 1, code := none }
def k1c1 : Code := { maxStack := 4, maxLocals := 15, code := code, exceptionTable := #[], attributes := #[] }
def k1m1 : Method := { name := "law", desc := "(IIIIII)Z", sig := { parameters := [.int, .int, .int, .int, .int, .int], returnType := some .boolean }, accessFlags := 9, code := some k1c1 }
def k1c2 : Code := { maxStack := 4, maxLocals := 8, code := method_3_code, exceptionTable := #[], attributes := #[] }
def k1m2 : Method := { name := "merge", desc := "([I[III)V", sig := { parameters := [(.array .int), (.array .int), .int, .int], returnType := none }, accessFlags := 10, code := some k1c2 }
/-- com/example/vertumnus/vertumnus/PartitionsLinkPinLaw -/
def k1 : Class := { plain "com/example/vertumnus/vertumnus/PartitionsLinkPinLaw" (some 0) with
  accessFlags := 49
  interfaces := #[]
  cf := some (fileOf pool1 17 #[] #[{ accessFlags := 1, nameIndex := 5, descriptorIndex := 6, attributes := #[] }, { accessFlags := 9, nameIndex := 41, descriptorIndex := 42, attributes := #[] }, { accessFlags := 10, nameIndex := 20, descriptorIndex := 21, attributes := #[] }] 49 2 #[] #[])
  fields := #[]
  methods := #[k1m0, k1m1, k1m2]
  instanceTypes := #[]
  staticTypes := #[]
  resolved := Array.replicate 48 none
  statics := none }

def pool2 : Array CpInfo := pool [(1, .methodref 2 3), (0, .class_ 4), (0, .nameAndType 5 6), (0, u "java/lang/Object"), (0, u "<init>"), (0, u "()V"), (9, .fieldref 17 18), (0, .class_ 19), (0, .nameAndType 20 21), (0, u "com/example/vertumnus/vertumnus/Partitions"), (0, u "parents"), (0, u "[I"), (0, .fieldref 17 23), (0, .nameAndType 24 25), (0, u "count"), (0, u "I"), (0, .methodref 17 27), (0, .nameAndType 28 29), (0, u "partitionOf"), (0, u "(I)I"), (0, .methodref 31 32), (0, .class_ 33), (0, .nameAndType 34 35), (0, u "java/lang/Math"), (0, u "max"), (0, u "(II)I"), (0, .methodref 31 37), (0, .nameAndType 38 35), (0, u "min"), (0, u "(I)V"), (3, u "link"), (0, u "(II)V"), (0, u "()I")] 17

def k2c0 : Code := { maxStack := 3, maxLocals := 3, code := prog_3_method_1_code, exceptionTable := #[], attributes := #[] }
def k2m0 : Method := { name := "<init>", desc := "(I)V", sig := { parameters := [.int], returnType := none }, accessFlags := 1, code := some k2c0 }
def k2c1 : Code := { maxStack := 4, maxLocals := 5, code := prog_3_method_2_code, exceptionTable := #[], attributes := #[] }
def k2m1 : Method := { name := "link", desc := "(II)V", sig := { parameters := [.int, .int], returnType := none }, accessFlags := 1, code := some k2c1 }
def k2c2 : Code := { maxStack := 5, maxLocals := 3, code := prog_3_method_3_code, exceptionTable := #[], attributes := #[] }
def k2m2 : Method := { name := "partitionOf", desc := "(I)I", sig := { parameters := [.int], returnType := some .int }, accessFlags := 1, code := some k2c2 }
def k2c3 : Code := { maxStack := 1, maxLocals := 1, code := prog_3_method_4_code, exceptionTable := #[], attributes := #[] }
def k2m3 : Method := { name := "count", desc := "()I", sig := { parameters := [], returnType := some .int }, accessFlags := 1, code := some k2c3 }
/-- com/example/vertumnus/vertumnus/Partitions -/
def k2 : Class := { plain "com/example/vertumnus/vertumnus/Partitions" (some 0) with
  accessFlags := 33
  interfaces := #[]
  cf := some (fileOf pool2 17 #[] #[{ accessFlags := 1, nameIndex := 5, descriptorIndex := 39, attributes := #[] }, { accessFlags := 1, nameIndex := 43, descriptorIndex := 44, attributes := #[] }, { accessFlags := 1, nameIndex := 28, descriptorIndex := 29, attributes := #[] }, { accessFlags := 1, nameIndex := 24, descriptorIndex := 45, attributes := #[] }] 33 2 #[] #[{ accessFlags := 18, nameIndex := 20, descriptorIndex := 21, attributes := #[] }, { accessFlags := 2, nameIndex := 24, descriptorIndex := 25, attributes := #[] }])
  fields := #[{ name := "parents", type := (.array .int), accessFlags := 18, slot := 0, constantValue := 0 }, { name := "count", type := .int, accessFlags := 2, slot := 1, constantValue := 0 }]
  methods := #[k2m0, k2m1, k2m2, k2m3]
  instanceTypes := #[(.array .int), .int]
  staticTypes := #[]
  resolved := Array.replicate 63 none
  statics := none }

def pool3 : Array CpInfo := pool [(1, .class_ 2), (0, u "java/lang/Math"), (1, .class_ 6), (1, u "java/lang/Object"), (0, u "<init>"), (0, u "()V"), (89, .class_ 100), (1, u "java/lang/Math$RandomNumberGeneratorHolder"), (71, u "negativeZeroFloatBits"), (0, u "J"), (2, u "negativeZeroDoubleBits"), (21, u "max"), (2, u "min"), (43, u "$assertionsDisabled"), (0, u "Z"), (88, u "(II)I"), (2, u "twoToTheDoubleScaleDown"), (0, u "D"), (4, u "twoToTheDoubleScaleUp"), (9, u "E"), (3, u "PI"), (2, u "TAU"), (2, u "DEGREES_TO_RADIANS"), (0, u "RADIANS_TO_DEGREES")] 94

def k3m0 : Method := { name := "<init>", desc := "()V", sig := { parameters := [], returnType := none }, accessFlags := 2, code := none }
def k3c1 : Code := { maxStack := 2, maxLocals := 2, code := jdk_29_method_65_code, exceptionTable := #[], attributes := #[] }
def k3m1 : Method := { name := "max", desc := "(II)I", sig := { parameters := [.int, .int], returnType := some .int }, accessFlags := 9, code := some k3c1 }
def k3c2 : Code := { maxStack := 2, maxLocals := 2, code := jdk_29_method_69_code, exceptionTable := #[], attributes := #[] }
def k3m2 : Method := { name := "min", desc := "(II)I", sig := { parameters := [.int, .int], returnType := some .int }, accessFlags := 9, code := some k3c2 }
/-- java/lang/Math -/
def k3 : Class := { plain "java/lang/Math" (some 0) with
  accessFlags := 49
  interfaces := #[]
  cf := some (fileOf pool3 1 #[.nestMembers #[98]] #[{ accessFlags := 2, nameIndex := 7, descriptorIndex := 8, attributes := #[] }, { accessFlags := 9, nameIndex := 198, descriptorIndex := 335, attributes := #[] }, { accessFlags := 9, nameIndex := 201, descriptorIndex := 335, attributes := #[] }] 49 4 #[] #[{ accessFlags := 25, nameIndex := 354, descriptorIndex := 339, attributes := #[] }, { accessFlags := 25, nameIndex := 358, descriptorIndex := 339, attributes := #[] }, { accessFlags := 25, nameIndex := 361, descriptorIndex := 339, attributes := #[] }, { accessFlags := 26, nameIndex := 364, descriptorIndex := 339, attributes := #[] }, { accessFlags := 26, nameIndex := 365, descriptorIndex := 339, attributes := #[] }, { accessFlags := 26, nameIndex := 172, descriptorIndex := 173, attributes := #[] }, { accessFlags := 26, nameIndex := 176, descriptorIndex := 173, attributes := #[] }, { accessFlags := 8, nameIndex := 344, descriptorIndex := 339, attributes := #[] }, { accessFlags := 8, nameIndex := 338, descriptorIndex := 339, attributes := #[] }, { accessFlags := 4120, nameIndex := 245, descriptorIndex := 246, attributes := #[] }])
  fields := #[{ name := "E", type := .double, accessFlags := 25, slot := 0, constantValue := 0 }, { name := "PI", type := .double, accessFlags := 25, slot := 1, constantValue := 0 }, { name := "TAU", type := .double, accessFlags := 25, slot := 2, constantValue := 0 }, { name := "DEGREES_TO_RADIANS", type := .double, accessFlags := 26, slot := 3, constantValue := 0 }, { name := "RADIANS_TO_DEGREES", type := .double, accessFlags := 26, slot := 4, constantValue := 0 }, { name := "negativeZeroFloatBits", type := .long, accessFlags := 26, slot := 5, constantValue := 0 }, { name := "negativeZeroDoubleBits", type := .long, accessFlags := 26, slot := 6, constantValue := 0 }, { name := "twoToTheDoubleScaleUp", type := .double, accessFlags := 8, slot := 7, constantValue := 0 }, { name := "twoToTheDoubleScaleDown", type := .double, accessFlags := 8, slot := 8, constantValue := 0 }, { name := "$assertionsDisabled", type := .boolean, accessFlags := 4120, slot := 9, constantValue := 0 }]
  methods := #[k3m0, k3m1, k3m2]
  instanceTypes := #[]
  staticTypes := #[.double, .double, .double, .double, .double, .long, .long, .double, .double, .boolean]
  resolved := Array.replicate 460 none
  statics := none }

def pool4 : Array CpInfo := pool [(1, u "java/lang/Cloneable"), (0, .class_ 1), (0, u "java/lang/Object"), (0, .class_ 3)] 3

/-- java/lang/Cloneable -/
def k4 : Class := { plain "java/lang/Cloneable" (some 0) with
  accessFlags := 1537
  interfaces := #[]
  cf := some (fileOf pool4 2 #[] #[] 1537 4 #[] #[])
  fields := #[]
  methods := #[]
  instanceTypes := #[]
  staticTypes := #[]
  resolved := Array.replicate 8 none
  statics := none }

def pool5 : Array CpInfo := pool [(1, u "java/io/Serializable"), (0, .class_ 1), (0, u "java/lang/Object"), (0, .class_ 3)] 3

/-- java/io/Serializable -/
def k5 : Class := { plain "java/io/Serializable" (some 0) with
  accessFlags := 1537
  interfaces := #[]
  cf := some (fileOf pool5 2 #[] #[] 1537 4 #[] #[])
  fields := #[]
  methods := #[]
  instanceTypes := #[]
  staticTypes := #[]
  resolved := Array.replicate 8 none
  statics := none }

/-- the primitive byte -/
def k6 : Class := { plain "byte" none with kind := .primitive 'B', accessFlags := 0x411 }
/-- [B -/
def k7 : Class := { plain "[B" (some 0) with kind := .array 6 .byte, interfaces := #[4, 5], accessFlags := 1041 }

/-- the primitive int -/
def k8 : Class := { plain "int" none with kind := .primitive 'I', accessFlags := 0x411 }
/-- [I -/
def k9 : Class := { plain "[I" (some 0) with kind := .array 8 .int, interfaces := #[4, 5], accessFlags := 1041 }

def heap : Heap := #[]
def classes : Array Class := #[k0, k1, k2, k3, k4, k5, k6, k7, k8, k9]
def interned : List (Array UInt16 × Addr) := []
def slotsUsed : Nat := 0
def theMethod : MethodId := ⟨1, 1⟩
def args0 : Array Value := #[.int 5, .int 6, .int 7, .int 8, .int 9, .int 10]
def aboutOver (below : List Frame) : State where
  vm := { classes := classes, interned := interned.toArray }
  heap := heap
  slotsUsed := slotsUsed
  threads := #[{ frames := .invoking theMethod args0 :: below }]
def below0 : List Frame := [.native { method := ⟨0, 0⟩, args := #[] }]
def about1 : State := aboutOver below0
def p0 : Program := .bare "" "" ""
def e0 : Env := launch0.env 0 0 0
theorem w_frames : about1.frames = Frame.invoking theMethod args0 :: below0 := rfl
set_option maxRecDepth 65536 in
theorem w_args : argsFit about1.vm theMethod args0 = true := by decide +kernel
set_option maxRecDepth 65536 in
theorem w_heap : heapFits about1 = true := by decide +kernel
set_option maxRecDepth 65536 in
theorem w_runnable : about1.curStatus? = some .runnable := by decide +kernel
set_option maxRecDepth 65536 in
theorem w_alone : about1.alone = true := by decide +kernel
set_option maxRecDepth 65536 in
theorem w_named : about1.methodNamed? x = some theMethod := by decide +kernel
set_option maxRecDepth 65536 in
theorem w_hears : about1.hears theMethod below0 = true := by decide +kernel
set_option maxRecDepth 65536 in
theorem w_ripe : about1.ripe theMethod args0 below0 = true := by decide +kernel
theorem w_running : about1.status = .running := rfl
set_option maxRecDepth 65536 in
theorem w_room : about1.hasRoom e0.platform room_1 = true :=
  launch0.hasRoom_least _ room_1 (by decide +kernel) (by decide +kernel) (by decide +kernel) (by decide +kernel) (by decide +kernel) (by decide +kernel)
theorem allAtoms_all (ts : List Jvm.Cond) (a : Array Jvm.Value) (st : Jvm.State) : (allAtoms ts).before a st = ts.all (fun c => c.before a st) := by
  induction ts with
  | nil => rfl
  | cons c t ih =>
    show (Jvm.Cond.and c (allAtoms t)).before a st = _
    rw [Jvm.Cond.before_and, ih, List.all_cons]
def words1 : List Jvm.Cond := Jvm.Cond.code x code maxLocals ret :: tables_1
/-- a 'code' word, met by the world's own term for the bytes: nothing is compared byte by byte -/
theorem code_word {y : MethodName} {bytes : ByteArray} {mx : Nat} {rt : Option FieldType} {a : Array Value} {s : State} {m : MethodId} {meth : Method} {c : Code} (h1 : s.methodNamed? y = some m) (h2 : s.vm.method? m = some meth) (h3 : meth.code = some c) (h4 : c.code = bytes)
    (h5 : (c.maxLocals == mx && c.exceptionTable.isEmpty && decide (c.maxStack ≤ mostOperands) && decide (meth.sig.returnType = rt) && !meth.locks && decide (parseMethodDescriptor y.desc = some meth.sig)) = true) : (Jvm.Cond.code y bytes mx rt).before a s = true := by
  simp only [Bool.and_eq_true, beq_iff_eq, Bool.not_eq_true', decide_eq_true_eq] at h5
  obtain ⟨⟨⟨⟨⟨g1, g2⟩, g3⟩, g4⟩, g5⟩, g6⟩ := h5
  simp [Cond.before, Cond.holds, Cond.value, h1, h2, h3, h4, g1, g2, g3, g4, g5, g6]
def isCode : Jvm.Cond → Bool
  | .code _ _ _ _ => true
  | _ => false
theorem all_split {L : List Jvm.Cond} {P : Jvm.Cond → Bool} (h1 : L.all (fun c => isCode c || P c) = true) (h2 : ∀ c ∈ L.filter isCode, P c = true) : L.all P = true := by
  refine List.all_eq_true.mpr fun c hc => ?_
  have h := List.all_eq_true.mp h1 c hc
  rcases Bool.eq_false_or_eq_true (isCode c) with hi | hi
  · exact h2 c (List.mem_filter.mpr ⟨hc, hi⟩)
  · simpa [hi] using h
set_option maxRecDepth 65536 in
theorem w_c0 : (Jvm.Cond.code x code maxLocals ret).before args0 about1 = true := code_word (m := ⟨1, 1⟩) (meth := k1m1) (c := k1c1) (by decide +kernel) rfl rfl rfl (by decide +kernel)
set_option maxRecDepth 65536 in
theorem w_c1 : (Jvm.Cond.code ({ cls := "com/example/vertumnus/vertumnus/Partitions", name := "<init>", desc := "(I)V" } : Jvm.MethodName) prog_3_method_1_code (3 : Nat) (Option.none : Option Jvm.ClassFile.FieldType)).before args0 about1 = true := code_word (m := ⟨2, 0⟩) (meth := k2m0) (c := k2c0) (by decide +kernel) rfl rfl rfl (by decide +kernel)
set_option maxRecDepth 65536 in
theorem w_c2 : (Jvm.Cond.code ({ cls := "java/lang/Object", name := "<init>", desc := "()V" } : Jvm.MethodName) object_method_1_code (1 : Nat) (Option.none : Option Jvm.ClassFile.FieldType)).before args0 about1 = true := code_word (m := ⟨0, 0⟩) (meth := k0m0) (c := k0c0) (by decide +kernel) rfl rfl rfl (by decide +kernel)
set_option maxRecDepth 65536 in
theorem w_c3 : (Jvm.Cond.code ({ cls := "com/example/vertumnus/vertumnus/Partitions", name := "link", desc := "(II)V" } : Jvm.MethodName) prog_3_method_2_code (5 : Nat) (Option.none : Option Jvm.ClassFile.FieldType)).before args0 about1 = true := code_word (m := ⟨2, 1⟩) (meth := k2m1) (c := k2c1) (by decide +kernel) rfl rfl rfl (by decide +kernel)
set_option maxRecDepth 65536 in
theorem w_c4 : (Jvm.Cond.code ({ cls := "com/example/vertumnus/vertumnus/Partitions", name := "partitionOf", desc := "(I)I" } : Jvm.MethodName) prog_3_method_3_code (3 : Nat) (Option.some Jvm.ClassFile.FieldType.int)).before args0 about1 = true := code_word (m := ⟨2, 2⟩) (meth := k2m2) (c := k2c2) (by decide +kernel) rfl rfl rfl (by decide +kernel)
set_option maxRecDepth 65536 in
theorem w_c5 : (Jvm.Cond.code ({ cls := "java/lang/Math", name := "max", desc := "(II)I" } : Jvm.MethodName) jdk_29_method_65_code (2 : Nat) (Option.some Jvm.ClassFile.FieldType.int)).before args0 about1 = true := code_word (m := ⟨3, 1⟩) (meth := k3m1) (c := k3c1) (by decide +kernel) rfl rfl rfl (by decide +kernel)
set_option maxRecDepth 65536 in
theorem w_c6 : (Jvm.Cond.code ({ cls := "java/lang/Math", name := "min", desc := "(II)I" } : Jvm.MethodName) jdk_29_method_69_code (2 : Nat) (Option.some Jvm.ClassFile.FieldType.int)).before args0 about1 = true := code_word (m := ⟨3, 2⟩) (meth := k3m2) (c := k3c2) (by decide +kernel) rfl rfl rfl (by decide +kernel)
set_option maxRecDepth 65536 in
theorem w_c7 : (Jvm.Cond.code ({ cls := "com/example/vertumnus/vertumnus/PartitionsLinkPinLaw", name := "merge", desc := "([I[III)V" } : Jvm.MethodName) method_3_code (8 : Nat) (Option.none : Option Jvm.ClassFile.FieldType)).before args0 about1 = true := code_word (m := ⟨1, 2⟩) (meth := k1m2) (c := k1c2) (by decide +kernel) rfl rfl rfl (by decide +kernel)
set_option maxRecDepth 65536 in
theorem w_c8 : (Jvm.Cond.code ({ cls := "com/example/vertumnus/vertumnus/Partitions", name := "count", desc := "()I" } : Jvm.MethodName) prog_3_method_4_code (1 : Nat) (Option.some Jvm.ClassFile.FieldType.int)).before args0 about1 = true := code_word (m := ⟨2, 3⟩) (meth := k2m3) (c := k2c3) (by decide +kernel) rfl rfl rfl (by decide +kernel)
def codes1 : List Jvm.Cond := [Jvm.Cond.code x code maxLocals ret, Jvm.Cond.code ({ cls := "com/example/vertumnus/vertumnus/Partitions", name := "<init>", desc := "(I)V" } : Jvm.MethodName) prog_3_method_1_code (3 : Nat) (Option.none : Option Jvm.ClassFile.FieldType), Jvm.Cond.code ({ cls := "java/lang/Object", name := "<init>", desc := "()V" } : Jvm.MethodName) object_method_1_code (1 : Nat) (Option.none : Option Jvm.ClassFile.FieldType), Jvm.Cond.code ({ cls := "com/example/vertumnus/vertumnus/Partitions", name := "link", desc := "(II)V" } : Jvm.MethodName) prog_3_method_2_code (5 : Nat) (Option.none : Option Jvm.ClassFile.FieldType), Jvm.Cond.code ({ cls := "com/example/vertumnus/vertumnus/Partitions", name := "partitionOf", desc := "(I)I" } : Jvm.MethodName) prog_3_method_3_code (3 : Nat) (Option.some Jvm.ClassFile.FieldType.int), Jvm.Cond.code ({ cls := "java/lang/Math", name := "max", desc := "(II)I" } : Jvm.MethodName) jdk_29_method_65_code (2 : Nat) (Option.some Jvm.ClassFile.FieldType.int), Jvm.Cond.code ({ cls := "java/lang/Math", name := "min", desc := "(II)I" } : Jvm.MethodName) jdk_29_method_69_code (2 : Nat) (Option.some Jvm.ClassFile.FieldType.int), Jvm.Cond.code ({ cls := "com/example/vertumnus/vertumnus/PartitionsLinkPinLaw", name := "merge", desc := "([I[III)V" } : Jvm.MethodName) method_3_code (8 : Nat) (Option.none : Option Jvm.ClassFile.FieldType), Jvm.Cond.code ({ cls := "com/example/vertumnus/vertumnus/Partitions", name := "count", desc := "()I" } : Jvm.MethodName) prog_3_method_4_code (1 : Nat) (Option.some Jvm.ClassFile.FieldType.int)]
set_option maxRecDepth 65536 in
theorem codes_eq : words1.filter isCode = codes1 := rfl
theorem w_codes : ∀ c ∈ words1.filter isCode, c.before args0 about1 = true := by
  rw [codes_eq]
  intro c hc
  simp only [codes1, List.mem_cons, List.not_mem_nil, or_false] at hc
  rcases hc with rfl | rfl | rfl | rfl | rfl | rfl | rfl | rfl | rfl
  · exact w_c0
  · exact w_c1
  · exact w_c2
  · exact w_c3
  · exact w_c4
  · exact w_c5
  · exact w_c6
  · exact w_c7
  · exact w_c8
set_option maxRecDepth 65536 in
theorem w_t1 : (words1.take 24).all (fun c => isCode c || c.before args0 about1) = true := by decide +kernel
set_option maxRecDepth 65536 in
theorem w_t2 : (words1.drop 24).all (fun c => isCode c || c.before args0 about1) = true := by decide +kernel
theorem w_tables : (allAtoms (Jvm.Cond.code x code maxLocals ret :: tables_1)).before args0 about1 = true := by
  rw [allAtoms_all]
  show words1.all (fun c => c.before args0 about1) = true
  refine all_split ?_ w_codes
  rw [← List.take_append_drop 24 words1, List.all_append, w_t1, w_t2]
  rfl
set_option maxRecDepth 65536 in
theorem w_case : (Jvm.Cond.and given_1 narrow_1).before args0 about1 = true := by decide +kernel
theorem w_applies : (headSpec (Jvm.Cond.code x code maxLocals ret :: tables_1) room_1).applies x e0.platform about1 = true :=
  (Spec.applies_iff w_frames).mpr ⟨w_running, w_runnable, w_alone, w_named, w_hears, w_ripe, w_room, w_tables⟩
theorem atStart : AtStart classFile x code maxLocals ret World_1 tables_1 room_1 Calls_1 rest_1 Pre_1 launch0 p0 e0 about1 theMethod args0 below0 :=
  ⟨lists_1, trivial, launch0.admits_env _ _ _, launch0.least_env, fairChoices_fair.cas, fairChoices_fair.clock, w_frames, w_args, w_heap, w_applies, trivial, trivial, w_case⟩
end start1
theorem witness_1 : WitnessClaimed_1 := ⟨start1.p0, start1.e0, start1.about1, start1.theMethod, start1.args0, start1.below0, start1.atStart⟩
end Jvm.Pilot.@@N@@
