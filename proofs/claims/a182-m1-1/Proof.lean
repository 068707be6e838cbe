import JvmDerived
import JvmDerived.Pilot.@@N@@Statement
import JvmDerived.Pilot.@@N@@Code
set_option linter.unusedVariables false
set_option linter.unusedSimpArgs false
@@BLOCK:NumsL.lean.txt@@
namespace Jvm.RoadKit
open Sem ClassFile Op Lib Jvm.Stand Jvm.Free Jvm.LawKit
section New
variable {p : Program} {l : Launch} {e : Env} {R : Room} {s : State} {m : MethodId} {args : Array Value} {below : List Frame} {meth : Method} {c : Code} {T : State} {locs : List Loc} {cells slots : Nat}
theorem retI (X : Stand p l e R s m args below meth c T locs cells slots) (hx : p.tables.exec = Jvm.exec) {pc : Nat} {Ls : Array Slot} {z : Int32} {rest : List Value} (hret : meth.sig.returnType = some .int) (hd : decode c.code pc = .ok (.ireturn, 1)) {fs : List Frame}
    (hl : ∀ (f : JFrame) (acts : List Action), f.method = m → f.locked = none → f.entered = [] → (doReturn e (T.setTop f) acts (some (.int z))).1 = T.setFrames fs) : Steps p.tables e below (T.setTop (mkF m pc Ls (.int z :: rest))) (T.setFrames fs) := by
  have hm' : T.vm.method? m = some meth := X.method'
  have hn : narrow .int (.int z) = .int z := rfl
  show Steps p.tables e below (T.setTop { method := m, pc := pc, locals := Ls, stack := _ :: rest, locked := none }) _
  jvm_step X.here [X.here.top, hx, hd, hm', hret, hn]
  first | (intro acts; rw [hl _ acts rfl rfl rfl]) | rw [hl _ _ rfl rfl rfl]
  exact Steps.refl _
end New
end Jvm.RoadKit
namespace Jvm.Pilot.@@N@@
open Jvm Jvm.ClassFile Sem Op Lib Jvm.Free Jvm.Stand Jvm.LawKit Jvm.RoadKit Bundle Jvm.Pilot.@@N@@.Jvm.D
theorem pn_0 : plainName "com/example/stierlin/stierlin/wire/compression/OutputWindowHoldsPinLaw" = true := by first | (simp [plainName, overriddenIn]; done) | decide +kernel
theorem pn_1 : plainName "com/example/stierlin/stierlin/wire/compression/OutputWindow" = true := by first | (simp [plainName, overriddenIn]; done) | decide +kernel
theorem pd_0 : parseMethodDescriptor "(II)I" = some ⟨[.int, .int], some .int⟩ := by decide +kernel
theorem pd_1 : parseMethodDescriptor "(II)V" = some ⟨[.int, .int], none⟩ := by decide +kernel
theorem pd_2 : parseMethodDescriptor "(III)I" = some ⟨[.int, .int, .int], some .int⟩ := by decide +kernel
theorem pd_3 : parseMethodDescriptor "(II)Z" = some ⟨[.int, .int], some .boolean⟩ := by decide +kernel
theorem d3_0 : decode jdk_29_method_69_code 0 = .ok (.iload_n 0, 1) := by decide +kernel
theorem d3_1 : decode jdk_29_method_69_code 1 = .ok (.iload_n 1, 1) := by decide +kernel
theorem d3_2 : decode jdk_29_method_69_code 2 = .ok (.if_icmp .gt 7, 3) := by decide +kernel
theorem d3_5 : decode jdk_29_method_69_code 5 = .ok (.iload_n 0, 1) := by decide +kernel
theorem d3_6 : decode jdk_29_method_69_code 6 = .ok (.goto 4, 3) := by decide +kernel
theorem d3_9 : decode jdk_29_method_69_code 9 = .ok (.iload_n 1, 1) := by decide +kernel
theorem d3_10 : decode jdk_29_method_69_code 10 = .ok (.ireturn, 1) := by decide +kernel
def own_f3 (p1 : Int32) (p2 : Int32) : Int32 := (if p2 < p1 then p2 else p1)
def Q3 (p1 : Int32) (p2 : Int32) (h0 : Heap) (n0 : Nat) (v : Option Value) (h : Heap) (L : List Loc) : Prop := v = some (.int (own_f3 p1 p2)) ∧ Fr n0 L ∧ h = h0
theorem ef_3 (m : MethodId) (x0 : Int32) (x1 : Int32) : entryFrame m #[(.int x0), (.int x1)] 2 = mkF m 0 #[.val (.int x0), .val (.int x1)] [] := by first | (simp [entryFrame, mkF, argsToLocals, Value.category]; done) | rfl
set_option maxRecDepth 65536 in
set_option maxHeartbeats 40000000 in
theorem rm3 (l : Launch) (Z : State) (a0 : Array Value) (hw : ∀ d ∈ tables_1, d.before a0 Z = true) (ws : List Jvm.Cond) (p1 : Int32) (p2 : Int32) (h0 : Heap) (n0 : Nat) :
    MetFree l (⟨"java/lang/Math", "min", "(II)I"⟩ : MethodName) (head1 (Jvm.Cond.code (⟨"java/lang/Math", "min", "(II)I"⟩ : MethodName) jdk_29_method_69_code 2 (some .int) :: ws) ({ frames := 0, cells := 0, slots := 0, locals := 0 } : Room)) (fun a U => a = #[(.int p1), (.int p2)] ∧ Z.Warmed39 U.vm ∧ U.heap = h0) (fun _ _ _ _ _ => True) (fun _ U o U' => ∃ v L, o = .returned v ∧ Q3 p1 p2 h0 n0 v U'.heap L ∧ FrameEnd U o U' L ({ frames := 0, cells := 0, slots := 0, locals := 0 } : Room).cells ({ frames := 0, cells := 0, slots := 0, locals := 0 } : Room).slots) := by
  refine MetFree.of_bodySF (Jvm.Free.JP.mathPlain rfl (by decide +kernel)) hisR ?_
  intro p e s m args below meth c s₁ Bd hml0 hP hK
  obtain ⟨rfl, hZ, hh⟩ := hP
  have hx := Bd.exec
  have hby := Bd.bytes
  have hml : c.maxLocals = 2 := hml0
  have hown : s.vm.findClass "java/lang/Math" = some m.cls := findClass_of_methodNamed Bd.named
  have hnm := (name_of_methodNamed Bd.named Bd.method).1
  have X0 : Stand p l e ({ frames := 0, cells := 0, slots := 0, locals := 0 } : Room) s m #[(.int p1), (.int p2)] below meth c s₁ [] 0 0 := Stand.of_body Bd
  have e0 : s₁.heap = h0 := by rw [← hh, Bd.state]; rfl
  have N0 := Fr.nil n0
  have pre0 : ∀ t, Steps p.tables e below (s₁.setTop (mkF m 0 #[.val (.int p1), .val (.int p2)] [])) t → Steps p.tables e below (s₁.setTop (entryFrame m #[(.int p1), (.int p2)] 2)) t := fun t k => castTop (ef_3 m p1 p2) k
  obtain ⟨fs, hr, hrun, hended, hW, hsame⟩ := X0.leave (v := some (.int (own_f3 p1 p2))) (fun h => by rw [Bd.returns] at h; cases h)
  refine ⟨_, _, pre0 _ ?_, hrun, hended, _, _, rfl, ?_, ⟨_, rfl⟩, hW, hsame.mono (by decide) (by decide)⟩
  · skip
    have J0 : ∀ (hv : own_f3 p1 p2 = own_f3 p1 p2 ), Steps p.tables e below (s₁.setTop (mkF m 0 #[.val (.int p1), .val (.int p2)] [])) (s₁.setFrames fs) := by
      intro hv
      show Steps p.tables e below (s₁.setTop (mkF m 0 #[.val (.int p1), .val (.int p2)] [])) _
      refine XS.iloadN X0.here hx rfl (hb hby d3_0) rfl ?_
      show Steps p.tables e below (s₁.setTop (mkF m 1 #[.val (.int p1), .val (.int p2)] [(.int p1)])) _
      refine XS.iloadN X0.here hx rfl (hb hby d3_1) rfl ?_
      show Steps p.tables e below (s₁.setTop (mkF m 2 #[.val (.int p1), .val (.int p2)] [(.int p2), (.int p1)])) _
      by_cases hc2 : p2 < p1
      · replace hv := hv.trans (if_pos hc2)
        refine XS.icmpYes X0.here hx rfl (pc0 := 2) (pc' := 9) rfl (hb hby d3_2) rfl (tlt hc2).2.2.1 (by decide) (by decide) ?_
        show Steps p.tables e below (s₁.setTop (mkF m 9 #[.val (.int p1), .val (.int p2)] [])) _
        refine XS.iloadN X0.here hx rfl (hb hby d3_9) rfl ?_
        show Steps p.tables e below (s₁.setTop (mkF m 10 #[.val (.int p1), .val (.int p2)] [(.int p2)])) _
        rw [hv] at hr
        exact retI X0 hx Bd.returns (hb hby d3_10) hr
      · replace hv := hv.trans (if_neg hc2)
        refine XS.icmpNo X0.here hx rfl (hb hby d3_2) rfl (flt hc2).2.2.1 ?_
        show Steps p.tables e below (s₁.setTop (mkF m 5 #[.val (.int p1), .val (.int p2)] [])) _
        refine XS.iloadN X0.here hx rfl (hb hby d3_5) rfl ?_
        show Steps p.tables e below (s₁.setTop (mkF m 6 #[.val (.int p1), .val (.int p2)] [(.int p1)])) _
        refine XS.goto X0.here hx rfl (pc0 := 6) (pc' := 10) rfl (hb hby d3_6) (by decide) (by decide) ?_
        show Steps p.tables e below (s₁.setTop (mkF m 10 #[.val (.int p1), .val (.int p2)] [(.int p1)])) _
        rw [hv] at hr
        exact retI X0 hx Bd.returns (hb hby d3_10) hr
    exact J0 rfl
  · show Q3 p1 p2 h0 n0 _ s₁.heap _
    rw [e0]
    exact ⟨rfl, N0, rfl⟩
theorem d4_0 : decode method_2_code 0 = .ok (.iload_n 1, 1) := by decide +kernel
theorem d4_1 : decode method_2_code 1 = .ok (.iconst 1, 1) := by decide +kernel
theorem d4_2 : decode method_2_code 2 = .ok (.iand, 1) := by decide +kernel
theorem d4_3 : decode method_2_code 3 = .ok (.ifCond .eq 5, 3) := by decide +kernel
theorem d4_6 : decode method_2_code 6 = .ok (.iload_n 0, 1) := by decide +kernel
theorem d4_7 : decode method_2_code 7 = .ok (.ireturn, 1) := by decide +kernel
theorem d4_8 : decode method_2_code 8 = .ok (.iload_n 2, 1) := by decide +kernel
theorem d4_9 : decode method_2_code 9 = .ok (.iload_n 1, 1) := by decide +kernel
theorem d4_10 : decode method_2_code 10 = .ok (.iconst 1, 1) := by decide +kernel
theorem d4_11 : decode method_2_code 11 = .ok (.ishr, 1) := by decide +kernel
theorem d4_12 : decode method_2_code 12 = .ok (.iconst 3, 1) := by decide +kernel
theorem d4_13 : decode method_2_code 13 = .ok (.irem, 1) := by decide +kernel
theorem d4_14 : decode method_2_code 14 = .ok (.iadd, 1) := by decide +kernel
theorem d4_15 : decode method_2_code 15 = .ok (.ireturn, 1) := by decide +kernel
def own_f4 (p1 : Int32) (p2 : Int32) (p3 : Int32) : Int32 := (if (p2 &&& (1 : Int32)) = (0 : Int32) then (p3 + ((p2 >>> ((1 : Int32) &&& 31)) % (3 : Int32))) else p1)
def Q4 (p1 : Int32) (p2 : Int32) (p3 : Int32) (h0 : Heap) (n0 : Nat) (v : Option Value) (h : Heap) (L : List Loc) : Prop := v = some (.int (own_f4 p1 p2 p3)) ∧ Fr n0 L ∧ h = h0
theorem ef_4 (m : MethodId) (x0 : Int32) (x1 : Int32) (x2 : Int32) : entryFrame m #[(.int x0), (.int x1), (.int x2)] 3 = mkF m 0 #[.val (.int x0), .val (.int x1), .val (.int x2)] [] := by first | (simp [entryFrame, mkF, argsToLocals, Value.category]; done) | rfl
set_option maxRecDepth 65536 in
set_option maxHeartbeats 40000000 in
theorem rm4 (l : Launch) (Z : State) (a0 : Array Value) (hw : ∀ d ∈ tables_1, d.before a0 Z = true) (ws : List Jvm.Cond) (p1 : Int32) (p2 : Int32) (p3 : Int32) (h0 : Heap) (n0 : Nat) :
    MetFree l (⟨"com/example/stierlin/stierlin/wire/compression/OutputWindowHoldsPinLaw", "pick", "(III)I"⟩ : MethodName) (head1 (Jvm.Cond.code (⟨"com/example/stierlin/stierlin/wire/compression/OutputWindowHoldsPinLaw", "pick", "(III)I"⟩ : MethodName) method_2_code 3 (some .int) :: ws) ({ frames := 0, cells := 0, slots := 0, locals := 0 } : Room)) (fun a U => a = #[(.int p1), (.int p2), (.int p3)] ∧ Z.Warmed39 U.vm ∧ U.heap = h0) (fun _ _ _ _ _ => True) (fun _ U o U' => ∃ v L, o = .returned v ∧ Q4 p1 p2 p3 h0 n0 v U'.heap L ∧ FrameEnd U o U' L ({ frames := 0, cells := 0, slots := 0, locals := 0 } : Room).cells ({ frames := 0, cells := 0, slots := 0, locals := 0 } : Room).slots) := by
  refine MetFree.of_bodySF (plainFor_of_name pn_0) hisR ?_
  intro p e s m args below meth c s₁ Bd hml0 hP hK
  obtain ⟨rfl, hZ, hh⟩ := hP
  have hx := Bd.exec
  have hby := Bd.bytes
  have hml : c.maxLocals = 3 := hml0
  have hown : s.vm.findClass "com/example/stierlin/stierlin/wire/compression/OutputWindowHoldsPinLaw" = some m.cls := findClass_of_methodNamed Bd.named
  have hnm := (name_of_methodNamed Bd.named Bd.method).1
  have X0 : Stand p l e ({ frames := 0, cells := 0, slots := 0, locals := 0 } : Room) s m #[(.int p1), (.int p2), (.int p3)] below meth c s₁ [] 0 0 := Stand.of_body Bd
  have e0 : s₁.heap = h0 := by rw [← hh, Bd.state]; rfl
  have N0 := Fr.nil n0
  have pre0 : ∀ t, Steps p.tables e below (s₁.setTop (mkF m 0 #[.val (.int p1), .val (.int p2), .val (.int p3)] [])) t → Steps p.tables e below (s₁.setTop (entryFrame m #[(.int p1), (.int p2), (.int p3)] 3)) t := fun t k => castTop (ef_4 m p1 p2 p3) k
  obtain ⟨fs, hr, hrun, hended, hW, hsame⟩ := X0.leave (v := some (.int (own_f4 p1 p2 p3))) (fun h => by rw [Bd.returns] at h; cases h)
  refine ⟨_, _, pre0 _ ?_, hrun, hended, _, _, rfl, ?_, ⟨_, rfl⟩, hW, hsame.mono (by decide) (by decide)⟩
  · skip
    have J0 : ∀ (hv : own_f4 p1 p2 p3 = own_f4 p1 p2 p3 ), Steps p.tables e below (s₁.setTop (mkF m 0 #[.val (.int p1), .val (.int p2), .val (.int p3)] [])) (s₁.setFrames fs) := by
      intro hv
      show Steps p.tables e below (s₁.setTop (mkF m 0 #[.val (.int p1), .val (.int p2), .val (.int p3)] [])) _
      refine XS.iloadN X0.here hx rfl (hb hby d4_0) rfl ?_
      show Steps p.tables e below (s₁.setTop (mkF m 1 #[.val (.int p1), .val (.int p2), .val (.int p3)] [(.int p2)])) _
      refine XS.iconst X0.here hx rfl (hb hby d4_1) ?_
      show Steps p.tables e below (s₁.setTop (mkF m 2 #[.val (.int p1), .val (.int p2), .val (.int p3)] [(.int (1 : Int32)), (.int p2)])) _
      refine XS.iand X0.here hx rfl (hb hby d4_2) rfl ?_
      show Steps p.tables e below (s₁.setTop (mkF m 3 #[.val (.int p1), .val (.int p2), .val (.int p3)] [(.int (p2 &&& (1 : Int32)))])) _
      by_cases hc3 : (p2 &&& (1 : Int32)) = (0 : Int32)
      · replace hv := hv.trans (if_pos hc3)
        refine XS.ifYes X0.here hx rfl (pc0 := 3) (pc' := 8) rfl (hb hby d4_3) rfl ((if0 _ _).trans (teq hc3).1) (by decide) (by decide) ?_
        show Steps p.tables e below (s₁.setTop (mkF m 8 #[.val (.int p1), .val (.int p2), .val (.int p3)] [])) _
        refine XS.iloadN X0.here hx rfl (hb hby d4_8) rfl ?_
        show Steps p.tables e below (s₁.setTop (mkF m 9 #[.val (.int p1), .val (.int p2), .val (.int p3)] [(.int p3)])) _
        refine XS.iloadN X0.here hx rfl (hb hby d4_9) rfl ?_
        show Steps p.tables e below (s₁.setTop (mkF m 10 #[.val (.int p1), .val (.int p2), .val (.int p3)] [(.int p2), (.int p3)])) _
        refine XS.iconst X0.here hx rfl (hb hby d4_10) ?_
        show Steps p.tables e below (s₁.setTop (mkF m 11 #[.val (.int p1), .val (.int p2), .val (.int p3)] [(.int (1 : Int32)), (.int p2), (.int p3)])) _
        refine XS.ishr X0.here hx rfl (hb hby d4_11) rfl ?_
        show Steps p.tables e below (s₁.setTop (mkF m 12 #[.val (.int p1), .val (.int p2), .val (.int p3)] [(.int (p2 >>> ((1 : Int32) &&& 31))), (.int p3)])) _
        refine XS.iconst X0.here hx rfl (hb hby d4_12) ?_
        show Steps p.tables e below (s₁.setTop (mkF m 13 #[.val (.int p1), .val (.int p2), .val (.int p3)] [(.int (3 : Int32)), (.int (p2 >>> ((1 : Int32) &&& 31))), (.int p3)])) _
        refine iremM X0 hx rfl (hb hby d4_13) rfl (by decide) ?_
        show Steps p.tables e below (s₁.setTop (mkF m 14 #[.val (.int p1), .val (.int p2), .val (.int p3)] [(.int ((p2 >>> ((1 : Int32) &&& 31)) % (3 : Int32))), (.int p3)])) _
        refine XS.iadd X0.here hx rfl (hb hby d4_14) rfl ?_
        show Steps p.tables e below (s₁.setTop (mkF m 15 #[.val (.int p1), .val (.int p2), .val (.int p3)] [(.int (p3 + ((p2 >>> ((1 : Int32) &&& 31)) % (3 : Int32))))])) _
        rw [hv] at hr
        exact retI X0 hx Bd.returns (hb hby d4_15) hr
      · replace hv := hv.trans (if_neg hc3)
        refine XS.ifNo X0.here hx rfl (hb hby d4_3) rfl ((if0 _ _).trans (feq hc3).1) ?_
        show Steps p.tables e below (s₁.setTop (mkF m 6 #[.val (.int p1), .val (.int p2), .val (.int p3)] [])) _
        refine XS.iloadN X0.here hx rfl (hb hby d4_6) rfl ?_
        show Steps p.tables e below (s₁.setTop (mkF m 7 #[.val (.int p1), .val (.int p2), .val (.int p3)] [(.int p1)])) _
        rw [hv] at hr
        exact retI X0 hx Bd.returns (hb hby d4_7) hr
    exact J0 rfl
  · show Q4 p1 p2 p3 h0 n0 _ s₁.heap _
    rw [e0]
    exact ⟨rfl, N0, rfl⟩

theorem own_min_n {x : Int32} (h : ¬ x < 0) : ¬ own_f3 x (65536 : Int32) < 0 := by
  unfold own_f3; split
  · decide
  · exact h
theorem own_min_c (x : Int32) : (own_f3 x (65536 : Int32)).toNatClampNeg ≤ 65536 := by
  unfold own_f3; split
  · decide
  · next h => rw [Int32.lt_iff_toInt_lt] at h; have e : (65536 : Int32).toInt = 65536 := by decide
              rw [e] at h; show x.toInt.toNat ≤ 65536; omega
def own_holds (h c x y : Int32) : Int32 := if h < x then 0 else if c < y then 0 else 1
theorem own_sum (a b : Int32) : ¬ (a &&& (8388607 : Int32)) + (b &&& (16777215 : Int32)) < 0 := by
  have e1 := Jvm.Kit.i32_mask a 8388607 (k := 23) (by decide) (by decide)
  have e2 := Jvm.Kit.i32_mask b 16777215 (k := 24) (by decide) (by decide)
  have e3 := Jvm.Kit.i32_add (p := a &&& 8388607) (q := b &&& 16777215) (by omega) (by omega)
  rw [Int32.lt_iff_toInt_lt, e3, e1, e2, Int32.toInt_zero]; omega

def Qrm1 (Z : State) (a1 : Addr) (p2 : Int32) (p3 : Int32) (h0 : Heap) (n0 : Nat) (v : Option Value) (h : Heap) (L : List Loc) : Prop := v = none ∧ Fr n0 L ∧ Keep h0 h [a1] ∧ Exa Z h a1 "com/example/stierlin/stierlin/wire/compression/OutputWindow" ∧ Fld Z h a1 "com/example/stierlin/stierlin/wire/compression/OutputWindow" "history" "I" (.int p2) ∧ Fld Z h a1 "com/example/stierlin/stierlin/wire/compression/OutputWindow" "chunk" "I" (.int p3)
theorem d1_0 : decode prog_181_method_1_code 0 = .ok (.aload_n 0, 1) := by decide +kernel
theorem d1_1 : decode prog_181_method_1_code 1 = .ok (.invokespecial 1, 3) := by decide +kernel
theorem d1_4 : decode prog_181_method_1_code 4 = .ok (.aload_n 0, 1) := by decide +kernel
theorem d1_5 : decode prog_181_method_1_code 5 = .ok (.iload_n 1, 1) := by decide +kernel
theorem d1_6 : decode prog_181_method_1_code 6 = .ok (.putfield 7, 3) := by decide +kernel
theorem d1_9 : decode prog_181_method_1_code 9 = .ok (.aload_n 0, 1) := by decide +kernel
theorem d1_10 : decode prog_181_method_1_code 10 = .ok (.iload_n 2, 1) := by decide +kernel
theorem d1_11 : decode prog_181_method_1_code 11 = .ok (.putfield 13, 3) := by decide +kernel
theorem d1_14 : decode prog_181_method_1_code 14 = .ok (.aload_n 0, 1) := by decide +kernel
theorem d1_15 : decode prog_181_method_1_code 15 = .ok (.iload_n 1, 1) := by decide +kernel
theorem d1_16 : decode prog_181_method_1_code 16 = .ok (.iload_n 2, 1) := by decide +kernel
theorem d1_17 : decode prog_181_method_1_code 17 = .ok (.iadd, 1) := by decide +kernel
theorem d1_18 : decode prog_181_method_1_code 18 = .ok (.putfield 16, 3) := by decide +kernel
theorem d1_21 : decode prog_181_method_1_code 21 = .ok (.aload_n 0, 1) := by decide +kernel
theorem d1_22 : decode prog_181_method_1_code 22 = .ok (.aload_n 0, 1) := by decide +kernel
theorem d1_23 : decode prog_181_method_1_code 23 = .ok (.getfield 16, 3) := by decide +kernel
theorem d1_26 : decode prog_181_method_1_code 26 = .ok (.ldc 19, 2) := by decide +kernel
theorem d1_28 : decode prog_181_method_1_code 28 = .ok (.invokestatic 20, 3) := by decide +kernel
theorem d1_31 : decode prog_181_method_1_code 31 = .ok (.newarray .byte, 2) := by decide +kernel
theorem d1_33 : decode prog_181_method_1_code 33 = .ok (.putfield 26, 3) := by decide +kernel
theorem d1_36 : decode prog_181_method_1_code 36 = .ok (.return_, 1) := by decide +kernel
theorem ef_1 (m : MethodId) (x0 : Addr) (x1 : Int32) (x2 : Int32) : entryFrame m #[(.ref x0), (.int x1), (.int x2)] 3 = mkF m 0 #[.val (.ref x0), .val (.int x1), .val (.int x2)] [] := by first | (simp [entryFrame, mkF, argsToLocals, Value.category]; done) | rfl
set_option maxRecDepth 65536 in
set_option maxHeartbeats 40000000 in
theorem rm1 (l : Launch) (Z : State) (a0 : Array Value) (hw : ∀ d ∈ tables_1, d.before a0 Z = true) (ws : List Jvm.Cond) (a1 : Addr) (p2 : Int32) (p3 : Int32) (h0 : Heap) (n0 : Nat) (Z0 : n0 ≤ h0.size) (E_a1 : Exa Z h0 a1 "com/example/stierlin/stierlin/wire/compression/OutputWindow") (F_history_a1 : Fld Z h0 a1 "com/example/stierlin/stierlin/wire/compression/OutputWindow" "history" "I" (.int (0 : Int32))) (F_chunk_a1 : Fld Z h0 a1 "com/example/stierlin/stierlin/wire/compression/OutputWindow" "chunk" "I" (.int (0 : Int32))) (F_fullCapacity_a1 : Fld Z h0 a1 "com/example/stierlin/stierlin/wire/compression/OutputWindow" "fullCapacity" "I" (.int (0 : Int32))) (F_ring_a1 : Fld Z h0 a1 "com/example/stierlin/stierlin/wire/compression/OutputWindow" "ring" "[B" .null) (ge_a1 : n0 ≤ a1) (hpos : ¬ (p2 + p3) < (0 : Int32)) :
    MetFree l (⟨"com/example/stierlin/stierlin/wire/compression/OutputWindow", "<init>", "(II)V"⟩ : MethodName) (head1 (Jvm.Cond.code (⟨"com/example/stierlin/stierlin/wire/compression/OutputWindow", "<init>", "(II)V"⟩ : MethodName) prog_181_method_1_code 3 none :: ws) ({ frames := 1, cells := 1, slots := 65536, locals := 14 } : Room)) (fun a U => a = #[(.ref a1), (.int p2), (.int p3)] ∧ Z.Warmed39 U.vm ∧ U.heap = h0) (fun _ _ _ _ _ => True) (fun _ U o U' => ∃ v L, o = .returned v ∧ Qrm1 Z a1 p2 p3 h0 n0 v U'.heap L ∧ FrameEnd U o U' L ({ frames := 1, cells := 1, slots := 65536, locals := 14 } : Room).cells ({ frames := 1, cells := 1, slots := 65536, locals := 14 } : Room).slots) := by
  refine MetFree.of_bodySF (plainFor_of_name pn_1) hisR ?_
  intro p e s m args below meth c s₁ Bd hml0 hP hK
  obtain ⟨rfl, hZ, hh⟩ := hP
  have hx := Bd.exec
  have hby := Bd.bytes
  have hml : c.maxLocals = 3 := hml0
  have hown : s.vm.findClass "com/example/stierlin/stierlin/wire/compression/OutputWindow" = some m.cls := findClass_of_methodNamed Bd.named
  have hnm := (name_of_methodNamed Bd.named Bd.method).1
  have X0 : Stand p l e ({ frames := 1, cells := 1, slots := 65536, locals := 14 } : Room) s m #[(.ref a1), (.int p2), (.int p3)] below meth c s₁ [] 0 0 := Stand.of_body Bd
  have e0 : s₁.heap = h0 := by rw [← hh, Bd.state]; rfl
  have N0 := Fr.nil n0
  have pre0 : ∀ t, Steps p.tables e below (s₁.setTop (mkF m 0 #[.val (.ref a1), .val (.int p2), .val (.int p3)] [])) t → Steps p.tables e below (s₁.setTop (entryFrame m #[(.ref a1), (.int p2), (.int p3)] 3)) t := fun t k => castTop (ef_1 m a1 p2 p3) k
  have pre1 : ∀ t, Steps p.tables e below (s₁.setTop (mkF m 1 #[.val (.ref a1), .val (.int p2), .val (.int p3)] [(.ref a1)])) t → Steps p.tables e below (s₁.setTop (entryFrame m #[(.ref a1), (.int p2), (.int p3)] 3)) t := by
    intro t kt
    refine pre0 t ?_
    show Steps p.tables e below (s₁.setTop (mkF m 0 #[.val (.ref a1), .val (.int p2), .val (.int p3)] [])) _
    refine XS.aloadN X0.here hx rfl (hb hby d1_0) rfl rfl ?_
    exact kt
  obtain ⟨T2, X2, e2, st2⟩ := initO X0 hx hZ hown (hw _ (List.mem_of_getElem? (i := 8) rfl)) (hw _ (List.mem_of_getElem? (i := 9) rfl)) (hw _ (List.mem_of_getElem? (i := 10) rfl)) e0 (g := (mkF m 1 #[.val (.ref a1), .val (.int p2), .val (.int p3)] [(.ref a1)])) rfl (by rw [hml]; rfl) rfl (hb hby d1_1) (by decide) (W := 0) (by show 2 * 0 + _ ≤ _; exact Nat.le_of_eq rfl) (by decide)
  have pre2 : ∀ t, Steps p.tables e below (T2.setTop (mkF m 4 #[.val (.ref a1), .val (.int p2), .val (.int p3)] [])) t → Steps p.tables e below (s₁.setTop (entryFrame m #[(.ref a1), (.int p2), (.int p3)] 3)) t := fun t kt => pre1 t (st2 _ kt)
  have pre3 : ∀ t, Steps p.tables e below (T2.setTop (mkF m 6 #[.val (.ref a1), .val (.int p2), .val (.int p3)] [(.int p2), (.ref a1)])) t → Steps p.tables e below (s₁.setTop (entryFrame m #[(.ref a1), (.int p2), (.int p3)] 3)) t := by
    intro t kt
    refine pre2 t ?_
    show Steps p.tables e below (T2.setTop (mkF m 4 #[.val (.ref a1), .val (.int p2), .val (.int p3)] [])) _
    refine XS.aloadN X2.here hx rfl (hb hby d1_4) rfl rfl ?_
    show Steps p.tables e below (T2.setTop (mkF m 5 #[.val (.ref a1), .val (.int p2), .val (.int p3)] [(.ref a1)])) _
    refine XS.iloadN X2.here hx rfl (hb hby d1_5) rfl ?_
    exact kt
  obtain ⟨T4, h4, X4, e4, W4, st4⟩ := putF X2 hx hZ hown (host := "") (Or.inl (hw _ (List.mem_of_getElem? (i := 11) rfl))) Via.refl e2 F_history_a1 E_a1 (Or.inr ⟨(hw _ (List.mem_of_getElem? (i := 12) rfl)), rfl, hnm⟩) (hw _ (List.mem_of_getElem? (i := 3) rfl)) (ty := .int) (by decide) rfl rfl (g := (mkF m 6 #[.val (.ref a1), .val (.int p2), .val (.int p3)] [(.int p2), (.ref a1)])) rfl rfl (hb hby d1_6)
  have N4 := Fr.snoc X4 N0 ge_a1
  have K4 : Keep h0 h4 [a1] := (Keep.refl h0 [a1]).wr W4 (Or.inl (List.mem_of_getElem? (i := 0) rfl))
  have Z4 : n0 ≤ h4.size := Nat.le_trans Z0 (Keep.of_wr W4).1
  have E_a1_5 := E_a1.wr W4
  have F_history_a1_6 := F_history_a1.same W4
  have F_chunk_a1_7 := F_chunk_a1.other W4 (Or.inr (slot_ne (Or.inr (hw _ (List.mem_of_getElem? (i := 14) rfl))) (Or.inr (hw _ (List.mem_of_getElem? (i := 12) rfl))) (by decide) (t := .int) (t' := .int) (by decide) (by decide)))
  have F_fullCapacity_a1_8 := F_fullCapacity_a1.other W4 (Or.inr (slot_ne (Or.inr (hw _ (List.mem_of_getElem? (i := 16) rfl))) (Or.inr (hw _ (List.mem_of_getElem? (i := 12) rfl))) (by decide) (t := .int) (t' := .int) (by decide) (by decide)))
  have F_ring_a1_9 := F_ring_a1.other W4 (Or.inr (slot_ne (Or.inl (hw _ (List.mem_of_getElem? (i := 24) rfl))) (Or.inr (hw _ (List.mem_of_getElem? (i := 12) rfl))) (by decide) (t := (.array .byte)) (t' := .int) (by decide) (by decide)))
  have pre4 : ∀ t, Steps p.tables e below (T4.setTop (mkF m 9 #[.val (.ref a1), .val (.int p2), .val (.int p3)] [])) t → Steps p.tables e below (s₁.setTop (entryFrame m #[(.ref a1), (.int p2), (.int p3)] 3)) t := fun t kt => pre3 t (st4 _ kt)
  have pre10 : ∀ t, Steps p.tables e below (T4.setTop (mkF m 11 #[.val (.ref a1), .val (.int p2), .val (.int p3)] [(.int p3), (.ref a1)])) t → Steps p.tables e below (s₁.setTop (entryFrame m #[(.ref a1), (.int p2), (.int p3)] 3)) t := by
    intro t kt
    refine pre4 t ?_
    show Steps p.tables e below (T4.setTop (mkF m 9 #[.val (.ref a1), .val (.int p2), .val (.int p3)] [])) _
    refine XS.aloadN X4.here hx rfl (hb hby d1_9) rfl rfl ?_
    show Steps p.tables e below (T4.setTop (mkF m 10 #[.val (.ref a1), .val (.int p2), .val (.int p3)] [(.ref a1)])) _
    refine XS.iloadN X4.here hx rfl (hb hby d1_10) rfl ?_
    exact kt
  obtain ⟨T11, h11, X11, e11, W11, st11⟩ := putF X4 hx hZ hown (host := "") (Or.inl (hw _ (List.mem_of_getElem? (i := 13) rfl))) Via.refl e4 F_chunk_a1_7 E_a1_5 (Or.inr ⟨(hw _ (List.mem_of_getElem? (i := 14) rfl)), rfl, hnm⟩) (hw _ (List.mem_of_getElem? (i := 3) rfl)) (ty := .int) (by decide) rfl rfl (g := (mkF m 11 #[.val (.ref a1), .val (.int p2), .val (.int p3)] [(.int p3), (.ref a1)])) rfl rfl (hb hby d1_11)
  have N11 := Fr.snoc X11 N4 ge_a1
  have K11 : Keep h0 h11 [a1] := K4.wr W11 (Or.inl (List.mem_of_getElem? (i := 0) rfl))
  have Z11 : n0 ≤ h11.size := Nat.le_trans Z4 (Keep.of_wr W11).1
  have E_a1_12 := E_a1_5.wr W11
  have F_history_a1_13 := F_history_a1_6.other W11 (Or.inr (slot_ne (Or.inr (hw _ (List.mem_of_getElem? (i := 12) rfl))) (Or.inr (hw _ (List.mem_of_getElem? (i := 14) rfl))) (by decide) (t := .int) (t' := .int) (by decide) (by decide)))
  have F_chunk_a1_14 := F_chunk_a1_7.same W11
  have F_fullCapacity_a1_15 := F_fullCapacity_a1_8.other W11 (Or.inr (slot_ne (Or.inr (hw _ (List.mem_of_getElem? (i := 16) rfl))) (Or.inr (hw _ (List.mem_of_getElem? (i := 14) rfl))) (by decide) (t := .int) (t' := .int) (by decide) (by decide)))
  have F_ring_a1_16 := F_ring_a1_9.other W11 (Or.inr (slot_ne (Or.inl (hw _ (List.mem_of_getElem? (i := 24) rfl))) (Or.inr (hw _ (List.mem_of_getElem? (i := 14) rfl))) (by decide) (t := (.array .byte)) (t' := .int) (by decide) (by decide)))
  have pre11 : ∀ t, Steps p.tables e below (T11.setTop (mkF m 14 #[.val (.ref a1), .val (.int p2), .val (.int p3)] [])) t → Steps p.tables e below (s₁.setTop (entryFrame m #[(.ref a1), (.int p2), (.int p3)] 3)) t := fun t kt => pre10 t (st11 _ kt)
  have pre17 : ∀ t, Steps p.tables e below (T11.setTop (mkF m 18 #[.val (.ref a1), .val (.int p2), .val (.int p3)] [(.int (p2 + p3)), (.ref a1)])) t → Steps p.tables e below (s₁.setTop (entryFrame m #[(.ref a1), (.int p2), (.int p3)] 3)) t := by
    intro t kt
    refine pre11 t ?_
    show Steps p.tables e below (T11.setTop (mkF m 14 #[.val (.ref a1), .val (.int p2), .val (.int p3)] [])) _
    refine XS.aloadN X11.here hx rfl (hb hby d1_14) rfl rfl ?_
    show Steps p.tables e below (T11.setTop (mkF m 15 #[.val (.ref a1), .val (.int p2), .val (.int p3)] [(.ref a1)])) _
    refine XS.iloadN X11.here hx rfl (hb hby d1_15) rfl ?_
    show Steps p.tables e below (T11.setTop (mkF m 16 #[.val (.ref a1), .val (.int p2), .val (.int p3)] [(.int p2), (.ref a1)])) _
    refine XS.iloadN X11.here hx rfl (hb hby d1_16) rfl ?_
    show Steps p.tables e below (T11.setTop (mkF m 17 #[.val (.ref a1), .val (.int p2), .val (.int p3)] [(.int p3), (.int p2), (.ref a1)])) _
    refine XS.iadd X11.here hx rfl (hb hby d1_17) rfl ?_
    exact kt
  obtain ⟨T18, h18, X18, e18, W18, st18⟩ := putF X11 hx hZ hown (host := "") (Or.inl (hw _ (List.mem_of_getElem? (i := 15) rfl))) Via.refl e11 F_fullCapacity_a1_15 E_a1_12 (Or.inr ⟨(hw _ (List.mem_of_getElem? (i := 16) rfl)), rfl, hnm⟩) (hw _ (List.mem_of_getElem? (i := 3) rfl)) (ty := .int) (by decide) rfl rfl (g := (mkF m 18 #[.val (.ref a1), .val (.int p2), .val (.int p3)] [(.int (p2 + p3)), (.ref a1)])) rfl rfl (hb hby d1_18)
  have N18 := Fr.snoc X18 N11 ge_a1
  have K18 : Keep h0 h18 [a1] := K11.wr W18 (Or.inl (List.mem_of_getElem? (i := 0) rfl))
  have Z18 : n0 ≤ h18.size := Nat.le_trans Z11 (Keep.of_wr W18).1
  have E_a1_19 := E_a1_12.wr W18
  have F_history_a1_20 := F_history_a1_13.other W18 (Or.inr (slot_ne (Or.inr (hw _ (List.mem_of_getElem? (i := 12) rfl))) (Or.inr (hw _ (List.mem_of_getElem? (i := 16) rfl))) (by decide) (t := .int) (t' := .int) (by decide) (by decide)))
  have F_chunk_a1_21 := F_chunk_a1_14.other W18 (Or.inr (slot_ne (Or.inr (hw _ (List.mem_of_getElem? (i := 14) rfl))) (Or.inr (hw _ (List.mem_of_getElem? (i := 16) rfl))) (by decide) (t := .int) (t' := .int) (by decide) (by decide)))
  have F_fullCapacity_a1_22 := F_fullCapacity_a1_15.same W18
  have F_ring_a1_23 := F_ring_a1_16.other W18 (Or.inr (slot_ne (Or.inl (hw _ (List.mem_of_getElem? (i := 24) rfl))) (Or.inr (hw _ (List.mem_of_getElem? (i := 16) rfl))) (by decide) (t := (.array .byte)) (t' := .int) (by decide) (by decide)))
  have pre18 : ∀ t, Steps p.tables e below (T18.setTop (mkF m 21 #[.val (.ref a1), .val (.int p2), .val (.int p3)] [])) t → Steps p.tables e below (s₁.setTop (entryFrame m #[(.ref a1), (.int p2), (.int p3)] 3)) t := fun t kt => pre17 t (st18 _ kt)
  have pre24 : ∀ t, Steps p.tables e below (T18.setTop (mkF m 23 #[.val (.ref a1), .val (.int p2), .val (.int p3)] [(.ref a1), (.ref a1)])) t → Steps p.tables e below (s₁.setTop (entryFrame m #[(.ref a1), (.int p2), (.int p3)] 3)) t := by
    intro t kt
    refine pre18 t ?_
    show Steps p.tables e below (T18.setTop (mkF m 21 #[.val (.ref a1), .val (.int p2), .val (.int p3)] [])) _
    refine XS.aloadN X18.here hx rfl (hb hby d1_21) rfl rfl ?_
    show Steps p.tables e below (T18.setTop (mkF m 22 #[.val (.ref a1), .val (.int p2), .val (.int p3)] [(.ref a1)])) _
    refine XS.aloadN X18.here hx rfl (hb hby d1_22) rfl rfl ?_
    exact kt
  obtain ⟨T25, X25, e25, st25⟩ := getF X18 hx hZ hown (host := "") (Or.inl (hw _ (List.mem_of_getElem? (i := 15) rfl))) Via.refl e18 F_fullCapacity_a1_22 (g := (mkF m 23 #[.val (.ref a1), .val (.int p2), .val (.int p3)] [(.ref a1), (.ref a1)])) rfl rfl (hb hby d1_23)
  have pre25 : ∀ t, Steps p.tables e below (T25.setTop (mkF m 26 #[.val (.ref a1), .val (.int p2), .val (.int p3)] [(.int (p2 + p3)), (.ref a1)])) t → Steps p.tables e below (s₁.setTop (entryFrame m #[(.ref a1), (.int p2), (.int p3)] 3)) t := fun t kt => pre24 t (st25 _ kt)
  have pre26 : ∀ t, Steps p.tables e below (T25.setTop (mkF m 28 #[.val (.ref a1), .val (.int p2), .val (.int p3)] [(.int (65536 : Int32)), (.int (p2 + p3)), (.ref a1)])) t → Steps p.tables e below (s₁.setTop (entryFrame m #[(.ref a1), (.int p2), (.int p3)] 3)) t := by
    intro t kt
    refine pre25 t ?_
    show Steps p.tables e below (T25.setTop (mkF m 26 #[.val (.ref a1), .val (.int p2), .val (.int p3)] [(.int (p2 + p3)), (.ref a1)])) _
    refine X25.ldcInt hx hown (mvT hZ (hw _ (List.mem_of_getElem? (i := 17) rfl))) (g := (mkF m 26 #[.val (.ref a1), .val (.int p2), .val (.int p3)] [(.int (p2 + p3)), (.ref a1)])) rfl (hb hby d1_26) _ ?_
    exact kt
  obtain ⟨_, _, ⟨T27, L27, k27, n27⟩, -, X27, ⟨Lc27, hQ27, l27, y27, z27⟩, st27⟩ := Jvm.LawKit.callS X25 hx (y := (⟨"java/lang/Math", "min", "(II)I"⟩ : MethodName)) hown (mvT hZ (hw _ (List.mem_of_getElem? (i := 18) rfl))) (mvT hZ (hw _ (List.mem_of_getElem? (i := 19) rfl))) (mvT hZ (hw _ (List.mem_of_getElem? (i := 20) rfl))) (mvT hZ (hw _ (List.mem_of_getElem? (i := 21) rfl))) (by decide) (backOf (W := 1) (rm3 l Z a0 hw [] (p2 + p3) (65536 : Int32) h18 n0) hZ (hw _ (List.mem_of_getElem? (i := 21) rfl)) (hw _ (List.mem_of_getElem? (i := 20) rfl)) (by decide) (by decide)) (g := (mkF m 28 #[.val (.ref a1), .val (.int p2), .val (.int p3)] [(.int (65536 : Int32)), (.int (p2 + p3)), (.ref a1)])) rfl (by rw [hml]; rfl) (argsL := [(.int (p2 + p3)), (.int (65536 : Int32))]) (rest := [(.ref a1)]) (lenOf pd_0 rfl) rfl (by show 2 * 0 + _ ≤ _; exact Nat.le_of_eq rfl) (hb hby d1_28) (fun _ _ => ⟨rfl, e25, (by decide : 0 + 0 ≤ _), (by decide : 0 + 0 ≤ _)⟩)
  dsimp only [Pt.U, Pt.locs, Pt.cells, Pt.slots] at X27 l27 y27 z27 st27 hQ27
  subst l27 y27 z27
  obtain ⟨rfl, N27q, e27⟩ := hQ27
  have N27 := Fr.app N18 N27q
  have pre27 : ∀ t, Steps p.tables e below (T27.setTop (mkF m 31 #[.val (.ref a1), .val (.int p2), .val (.int p3)] [(.int (own_f3 (p2 + p3) (65536 : Int32))), (.ref a1)])) t → Steps p.tables e below (s₁.setTop (entryFrame m #[(.ref a1), (.int p2), (.int p3)] 3)) t := fun t kt => pre26 t (st27 _ kt)
  obtain ⟨T28, h28, k28, X28, e28, E28, A28, st28⟩ := newP X27 hx hZ (hw _ (List.mem_of_getElem? (i := 22) rfl)) e27 (g := (mkF m 31 #[.val (.ref a1), .val (.int p2), .val (.int p3)] [(.int (own_f3 (p2 + p3) (65536 : Int32))), (.ref a1)])) rfl (hb hby d1_31) rfl (own_min_n hpos) (cap := 65536) (own_min_c _) (by decide) (by decide) (by decide)
  obtain ⟨b28, g28⟩ : ∃ z, z = h18.size := ⟨_, rfl⟩
  have ne_a1_b28 : a1 ≠ b28 := Nat.ne_of_lt (Nat.lt_of_lt_of_le E_a1_19.lt (Nat.le_of_eq g28.symm))
  have g_b28 : n0 ≤ b28 := Nat.le_trans Z18 (Nat.le_of_eq g28.symm)
  have sz_b28 : h0.size ≤ b28 := Nat.le_trans K18.1 (Nat.le_of_eq g28.symm)
  rw [← g28] at A28 st28
  have K28 : Keep h0 h28 [a1] := K18.ext E28
  have Z28 : n0 ≤ h28.size := Nat.le_trans Z18 E28.1
  have E_a1_29 := E_a1_19.ext E28
  have F_history_a1_30 := F_history_a1_20.ext E28
  have F_chunk_a1_31 := F_chunk_a1_21.ext E28
  have F_fullCapacity_a1_32 := F_fullCapacity_a1_22.ext E28
  have F_ring_a1_33 := F_ring_a1_23.ext E28
  have V_b28 : Arv Z h28 b28 k28 .byte (own_f3 (p2 + p3) (65536 : Int32)) [] (.int (0 : Int32)) := Arv.new A28 (own_min_n hpos)
  have pre28 : ∀ t, Steps p.tables e below (T28.setTop (mkF m 33 #[.val (.ref a1), .val (.int p2), .val (.int p3)] [(.ref b28), (.ref a1)])) t → Steps p.tables e below (s₁.setTop (entryFrame m #[(.ref a1), (.int p2), (.int p3)] 3)) t := fun t kt => pre27 t (st28 _ kt)
  obtain ⟨T34, h34, X34, e34, W34, st34⟩ := putF X28 hx hZ hown (host := "") (Or.inl (hw _ (List.mem_of_getElem? (i := 23) rfl))) Via.refl e28 F_ring_a1_33 E_a1_29 (Or.inl (hw _ (List.mem_of_getElem? (i := 24) rfl))) (hw _ (List.mem_of_getElem? (i := 3) rfl)) (ty := (.array .byte)) (by decide) rfl rfl (g := (mkF m 33 #[.val (.ref a1), .val (.int p2), .val (.int p3)] [(.ref b28), (.ref a1)])) rfl rfl (hb hby d1_33)
  have N34 := Fr.snoc X34 N27 ge_a1
  have K34 : Keep h0 h34 [a1] := K28.wr W34 (Or.inl (List.mem_of_getElem? (i := 0) rfl))
  have Z34 : n0 ≤ h34.size := Nat.le_trans Z28 (Keep.of_wr W34).1
  have E_a1_35 := E_a1_29.wr W34
  have F_history_a1_36 := F_history_a1_30.other W34 (Or.inr (slot_ne (Or.inr (hw _ (List.mem_of_getElem? (i := 12) rfl))) (Or.inl (hw _ (List.mem_of_getElem? (i := 24) rfl))) (by decide) (t := .int) (t' := (.array .byte)) (by decide) (by decide)))
  have F_chunk_a1_37 := F_chunk_a1_31.other W34 (Or.inr (slot_ne (Or.inr (hw _ (List.mem_of_getElem? (i := 14) rfl))) (Or.inl (hw _ (List.mem_of_getElem? (i := 24) rfl))) (by decide) (t := .int) (t' := (.array .byte)) (by decide) (by decide)))
  have F_fullCapacity_a1_38 := F_fullCapacity_a1_32.other W34 (Or.inr (slot_ne (Or.inr (hw _ (List.mem_of_getElem? (i := 16) rfl))) (Or.inl (hw _ (List.mem_of_getElem? (i := 24) rfl))) (by decide) (t := .int) (t' := (.array .byte)) (by decide) (by decide)))
  have F_ring_a1_39 := F_ring_a1_33.same W34
  have V_b28_40 := V_b28.other W34 (Ne.symm ne_a1_b28)
  have pre34 : ∀ t, Steps p.tables e below (T34.setTop (mkF m 36 #[.val (.ref a1), .val (.int p2), .val (.int p3)] [])) t → Steps p.tables e below (s₁.setTop (entryFrame m #[(.ref a1), (.int p2), (.int p3)] 3)) t := fun t kt => pre28 t (st34 _ kt)
  obtain ⟨fs, hr, hrun, hended, hW, hsame⟩ := X34.leave (v := none) (fun _ => rfl)
  refine ⟨_, _, pre34 _ ?_, hrun, hended, _, _, rfl, ?_, ⟨_, rfl⟩, hW, hsame.mono (by decide) (by decide)⟩
  · show Steps p.tables e below (T34.setTop (mkF m 36 #[.val (.ref a1), .val (.int p2), .val (.int p3)] [])) _
    exact X34.returnOut hx Bd.returns (hb hby d1_36) hr
  · show Qrm1 Z a1 p2 p3 h0 n0 _ T34.heap _
    rw [e34]
    exact ⟨rfl, N34, K34, E_a1_35, F_history_a1_36, F_chunk_a1_37⟩
def Qrm5 (Z : State) (a1 : Addr) (p2 : Int32) (p3 : Int32) (w1 : Int32) (w2 : Int32) (h0 : Heap) (n0 : Nat) (v : Option Value) (h : Heap) (L : List Loc) : Prop := v = some (.int (own_holds w1 w2 p2 p3)) ∧ Fr n0 L ∧ h = h0
theorem d5_0 : decode prog_181_method_2_code 0 = .ok (.aload_n 0, 1) := by decide +kernel
theorem d5_1 : decode prog_181_method_2_code 1 = .ok (.getfield 7, 3) := by decide +kernel
theorem d5_4 : decode prog_181_method_2_code 4 = .ok (.iload_n 1, 1) := by decide +kernel
theorem d5_5 : decode prog_181_method_2_code 5 = .ok (.if_icmp .lt 15, 3) := by decide +kernel
theorem d5_8 : decode prog_181_method_2_code 8 = .ok (.aload_n 0, 1) := by decide +kernel
theorem d5_9 : decode prog_181_method_2_code 9 = .ok (.getfield 13, 3) := by decide +kernel
theorem d5_12 : decode prog_181_method_2_code 12 = .ok (.iload_n 2, 1) := by decide +kernel
theorem d5_13 : decode prog_181_method_2_code 13 = .ok (.if_icmp .lt 7, 3) := by decide +kernel
theorem d5_16 : decode prog_181_method_2_code 16 = .ok (.iconst 1, 1) := by decide +kernel
theorem d5_17 : decode prog_181_method_2_code 17 = .ok (.goto 4, 3) := by decide +kernel
theorem d5_20 : decode prog_181_method_2_code 20 = .ok (.iconst 0, 1) := by decide +kernel
theorem d5_21 : decode prog_181_method_2_code 21 = .ok (.ireturn, 1) := by decide +kernel
theorem ef_5 (m : MethodId) (x0 : Addr) (x1 : Int32) (x2 : Int32) : entryFrame m #[(.ref x0), (.int x1), (.int x2)] 3 = mkF m 0 #[.val (.ref x0), .val (.int x1), .val (.int x2)] [] := by first | (simp [entryFrame, mkF, argsToLocals, Value.category]; done) | rfl
set_option maxRecDepth 65536 in
set_option maxHeartbeats 40000000 in
theorem rm5 (l : Launch) (Z : State) (a0 : Array Value) (hw : ∀ d ∈ tables_1, d.before a0 Z = true) (ws : List Jvm.Cond) (a1 : Addr) (p2 : Int32) (p3 : Int32) (w1 : Int32) (w2 : Int32) (h0 : Heap) (n0 : Nat) (Z0 : n0 ≤ h0.size) (F_history_a1 : Fld Z h0 a1 "com/example/stierlin/stierlin/wire/compression/OutputWindow" "history" "I" (.int w1)) (F_chunk_a1 : Fld Z h0 a1 "com/example/stierlin/stierlin/wire/compression/OutputWindow" "chunk" "I" (.int w2)) :
    MetFree l (⟨"com/example/stierlin/stierlin/wire/compression/OutputWindow", "holds", "(II)Z"⟩ : MethodName) (head1 (Jvm.Cond.code (⟨"com/example/stierlin/stierlin/wire/compression/OutputWindow", "holds", "(II)Z"⟩ : MethodName) prog_181_method_2_code 3 (some .boolean) :: ws) ({ frames := 0, cells := 0, slots := 0, locals := 0 } : Room)) (fun a U => a = #[(.ref a1), (.int p2), (.int p3)] ∧ Z.Warmed39 U.vm ∧ U.heap = h0) (fun _ _ _ _ _ => True) (fun _ U o U' => ∃ v L, o = .returned v ∧ Qrm5 Z a1 p2 p3 w1 w2 h0 n0 v U'.heap L ∧ FrameEnd U o U' L ({ frames := 0, cells := 0, slots := 0, locals := 0 } : Room).cells ({ frames := 0, cells := 0, slots := 0, locals := 0 } : Room).slots) := by
  refine MetFree.of_bodySF (plainFor_of_name pn_1) hisR ?_
  intro p e s m args below meth c s₁ Bd hml0 hP hK
  obtain ⟨rfl, hZ, hh⟩ := hP
  have hx := Bd.exec
  have hby := Bd.bytes
  have hml : c.maxLocals = 3 := hml0
  have hown : s.vm.findClass "com/example/stierlin/stierlin/wire/compression/OutputWindow" = some m.cls := findClass_of_methodNamed Bd.named
  have hnm := (name_of_methodNamed Bd.named Bd.method).1
  have X0 : Stand p l e ({ frames := 0, cells := 0, slots := 0, locals := 0 } : Room) s m #[(.ref a1), (.int p2), (.int p3)] below meth c s₁ [] 0 0 := Stand.of_body Bd
  have e0 : s₁.heap = h0 := by rw [← hh, Bd.state]; rfl
  have N0 := Fr.nil n0
  have pre0 : ∀ t, Steps p.tables e below (s₁.setTop (mkF m 0 #[.val (.ref a1), .val (.int p2), .val (.int p3)] [])) t → Steps p.tables e below (s₁.setTop (entryFrame m #[(.ref a1), (.int p2), (.int p3)] 3)) t := fun t k => castTop (ef_5 m a1 p2 p3) k
  have pre1 : ∀ t, Steps p.tables e below (s₁.setTop (mkF m 1 #[.val (.ref a1), .val (.int p2), .val (.int p3)] [(.ref a1)])) t → Steps p.tables e below (s₁.setTop (entryFrame m #[(.ref a1), (.int p2), (.int p3)] 3)) t := by
    intro t kt
    refine pre0 t ?_
    show Steps p.tables e below (s₁.setTop (mkF m 0 #[.val (.ref a1), .val (.int p2), .val (.int p3)] [])) _
    refine XS.aloadN X0.here hx rfl (hb hby d5_0) rfl rfl ?_
    exact kt
  obtain ⟨T2, X2, e2, st2⟩ := getF X0 hx hZ hown (host := "") (Or.inl (hw _ (List.mem_of_getElem? (i := 11) rfl))) Via.refl e0 F_history_a1 (g := (mkF m 1 #[.val (.ref a1), .val (.int p2), .val (.int p3)] [(.ref a1)])) rfl rfl (hb hby d5_1)
  have pre2 : ∀ t, Steps p.tables e below (T2.setTop (mkF m 4 #[.val (.ref a1), .val (.int p2), .val (.int p3)] [(.int w1)])) t → Steps p.tables e below (s₁.setTop (entryFrame m #[(.ref a1), (.int p2), (.int p3)] 3)) t := fun t kt => pre1 t (st2 _ kt)
  have pre3 : ∀ t, Steps p.tables e below (T2.setTop (mkF m 5 #[.val (.ref a1), .val (.int p2), .val (.int p3)] [(.int p2), (.int w1)])) t → Steps p.tables e below (s₁.setTop (entryFrame m #[(.ref a1), (.int p2), (.int p3)] 3)) t := by
    intro t kt
    refine pre2 t ?_
    show Steps p.tables e below (T2.setTop (mkF m 4 #[.val (.ref a1), .val (.int p2), .val (.int p3)] [(.int w1)])) _
    refine XS.iloadN X2.here hx rfl (hb hby d5_4) rfl ?_
    exact kt
  by_cases hc5 : w1 < p2
  · have pre4 : ∀ t, Steps p.tables e below (T2.setTop (mkF m 20 #[.val (.ref a1), .val (.int p2), .val (.int p3)] [])) t → Steps p.tables e below (s₁.setTop (entryFrame m #[(.ref a1), (.int p2), (.int p3)] 3)) t := by
      intro t kt
      refine pre3 t ?_
      show Steps p.tables e below (T2.setTop (mkF m 5 #[.val (.ref a1), .val (.int p2), .val (.int p3)] [(.int p2), (.int w1)])) _
      refine XS.icmpYes X2.here hx rfl (pc0 := 5) (pc' := 20) rfl (hb hby d5_5) rfl (tlt hc5).1 (by decide) (by decide) ?_
      exact kt
    have pre5 : ∀ t, Steps p.tables e below (T2.setTop (mkF m 21 #[.val (.ref a1), .val (.int p2), .val (.int p3)] [(.int (0 : Int32))])) t → Steps p.tables e below (s₁.setTop (entryFrame m #[(.ref a1), (.int p2), (.int p3)] 3)) t := by
      intro t kt
      refine pre4 t ?_
      show Steps p.tables e below (T2.setTop (mkF m 20 #[.val (.ref a1), .val (.int p2), .val (.int p3)] [])) _
      refine XS.iconst X2.here hx rfl (hb hby d5_20) ?_
      exact kt
    have hres : (0 : Int32) = (own_holds w1 w2 p2 p3) := by simp [own_holds, hc5]
    obtain ⟨fs, hr, hrun, hended, hW, hsame⟩ := X2.leave (v := some (.int (0 : Int32))) (fun h => by rw [Bd.returns] at h; cases h)
    refine ⟨_, _, pre5 _ ?_, hrun, hended, _, _, rfl, ?_, ⟨_, rfl⟩, hW, hsame.mono (by decide) (by decide)⟩
    · show Steps p.tables e below (T2.setTop (mkF m 21 #[.val (.ref a1), .val (.int p2), .val (.int p3)] [(.int (0 : Int32))])) _
      exact retN X2 hx (t := .boolean) Bd.returns (by simp) (hb hby d5_21) hr
    · show Qrm5 Z a1 p2 p3 w1 w2 h0 n0 _ T2.heap _
      rw [e2]
      exact ⟨congrArg some (congrArg Value.int hres), N0, rfl⟩
  · have pre6 : ∀ t, Steps p.tables e below (T2.setTop (mkF m 8 #[.val (.ref a1), .val (.int p2), .val (.int p3)] [])) t → Steps p.tables e below (s₁.setTop (entryFrame m #[(.ref a1), (.int p2), (.int p3)] 3)) t := by
      intro t kt
      refine pre3 t ?_
      show Steps p.tables e below (T2.setTop (mkF m 5 #[.val (.ref a1), .val (.int p2), .val (.int p3)] [(.int p2), (.int w1)])) _
      refine XS.icmpNo X2.here hx rfl (hb hby d5_5) rfl (flt hc5).1 ?_
      exact kt
    have pre7 : ∀ t, Steps p.tables e below (T2.setTop (mkF m 9 #[.val (.ref a1), .val (.int p2), .val (.int p3)] [(.ref a1)])) t → Steps p.tables e below (s₁.setTop (entryFrame m #[(.ref a1), (.int p2), (.int p3)] 3)) t := by
      intro t kt
      refine pre6 t ?_
      show Steps p.tables e below (T2.setTop (mkF m 8 #[.val (.ref a1), .val (.int p2), .val (.int p3)] [])) _
      refine XS.aloadN X2.here hx rfl (hb hby d5_8) rfl rfl ?_
      exact kt
    obtain ⟨T8, X8, e8, st8⟩ := getF X2 hx hZ hown (host := "") (Or.inl (hw _ (List.mem_of_getElem? (i := 13) rfl))) Via.refl e2 F_chunk_a1 (g := (mkF m 9 #[.val (.ref a1), .val (.int p2), .val (.int p3)] [(.ref a1)])) rfl rfl (hb hby d5_9)
    have pre8 : ∀ t, Steps p.tables e below (T8.setTop (mkF m 12 #[.val (.ref a1), .val (.int p2), .val (.int p3)] [(.int w2)])) t → Steps p.tables e below (s₁.setTop (entryFrame m #[(.ref a1), (.int p2), (.int p3)] 3)) t := fun t kt => pre7 t (st8 _ kt)
    have pre9 : ∀ t, Steps p.tables e below (T8.setTop (mkF m 13 #[.val (.ref a1), .val (.int p2), .val (.int p3)] [(.int p3), (.int w2)])) t → Steps p.tables e below (s₁.setTop (entryFrame m #[(.ref a1), (.int p2), (.int p3)] 3)) t := by
      intro t kt
      refine pre8 t ?_
      show Steps p.tables e below (T8.setTop (mkF m 12 #[.val (.ref a1), .val (.int p2), .val (.int p3)] [(.int w2)])) _
      refine XS.iloadN X8.here hx rfl (hb hby d5_12) rfl ?_
      exact kt
    obtain ⟨v10_0, hv10_0, pre10⟩ : ∃ (v10_0 : Int32), v10_0 = (if w2 < p3 then (0 : Int32) else (1 : Int32)) ∧ ∀ t, Steps p.tables e below (T8.setTop (mkF m 21 #[.val (.ref a1), .val (.int p2), .val (.int p3)] [(.int v10_0)])) t → Steps p.tables e below (s₁.setTop (entryFrame m #[(.ref a1), (.int p2), (.int p3)] 3)) t := by
      refine ⟨_, rfl, ?_⟩
      intro t kt
      refine pre9 t ?_
      show Steps p.tables e below (T8.setTop (mkF m 13 #[.val (.ref a1), .val (.int p2), .val (.int p3)] [(.int p3), (.int w2)])) _
      by_cases hc13 : w2 < p3
      · (try simp only [if_pos hc13] at kt)
        refine XS.icmpYes X8.here hx rfl (pc0 := 13) (pc' := 20) rfl (hb hby d5_13) rfl (tlt hc13).1 (by decide) (by decide) ?_
        show Steps p.tables e below (T8.setTop (mkF m 20 #[.val (.ref a1), .val (.int p2), .val (.int p3)] [])) _
        refine XS.iconst X8.here hx rfl (hb hby d5_20) ?_
        exact kt
      · (try simp only [if_neg hc13] at kt)
        refine XS.icmpNo X8.here hx rfl (hb hby d5_13) rfl (flt hc13).1 ?_
        show Steps p.tables e below (T8.setTop (mkF m 16 #[.val (.ref a1), .val (.int p2), .val (.int p3)] [])) _
        refine XS.iconst X8.here hx rfl (hb hby d5_16) ?_
        show Steps p.tables e below (T8.setTop (mkF m 17 #[.val (.ref a1), .val (.int p2), .val (.int p3)] [(.int (1 : Int32))])) _
        refine XS.goto X8.here hx rfl (pc0 := 17) (pc' := 21) rfl (hb hby d5_17) (by decide) (by decide) ?_
        exact kt
    have hres : (nar .boolean v10_0) = (own_holds w1 w2 p2 p3) := by rw [hv10_0]; simp only [own_holds, hc5, ↓reduceIte]; (repeat' split) <;> first | rfl | contradiction
    obtain ⟨fs, hr, hrun, hended, hW, hsame⟩ := X8.leave (v := some (.int (nar .boolean v10_0))) (fun h => by rw [Bd.returns] at h; cases h)
    refine ⟨_, _, pre10 _ ?_, hrun, hended, _, _, rfl, ?_, ⟨_, rfl⟩, hW, hsame.mono (by decide) (by decide)⟩
    · show Steps p.tables e below (T8.setTop (mkF m 21 #[.val (.ref a1), .val (.int p2), .val (.int p3)] [(.int v10_0)])) _
      exact retN X8 hx (t := .boolean) Bd.returns (by simp) (hb hby d5_21) hr
    · show Qrm5 Z a1 p2 p3 w1 w2 h0 n0 _ T8.heap _
      rw [e8]
      exact ⟨congrArg some (congrArg Value.int hres), N0, rfl⟩
def Q0 (n0 : Nat) (v : Option Value) (h : Heap) (L : List Loc) : Prop := v = some (.int (1 : Int32)) ∧ Fr n0 L
theorem ef_0 (m : MethodId) (x0 : Int32) (x1 : Int32) (x2 : Int32) (x3 : Int32) (x4 : Int32) (x5 : Int32) : entryFrame m #[(.int x0), (.int x1), (.int x2), (.int x3), (.int x4), (.int x5)] maxLocals = mkF m 0 #[.val (.int x0), .val (.int x1), .val (.int x2), .val (.int x3), .val (.int x4), .val (.int x5), .unset, .unset, .unset, .unset, .unset, .unset, .unset, .unset] [] := by first | (simp [entryFrame, mkF, argsToLocals, Value.category, maxLocals]; done) | rfl
set_option maxRecDepth 65536 in
set_option maxHeartbeats 40000000 in
theorem rm0 (l : Launch) (Z : State) (a0 : Array Value) (hw : ∀ d ∈ tables_1, d.before a0 Z = true) (ws : List Jvm.Cond) (p1 : Int32) (p2 : Int32) (p3 : Int32) (p4 : Int32) (p5 : Int32) (p6 : Int32) (h0 : Heap) (n0 : Nat) (Z0 : n0 ≤ h0.size) :
    MetFree l x (head1 (Jvm.Cond.code x code maxLocals ret :: ws) room_1) (fun a U => a = #[(.int p1), (.int p2), (.int p3), (.int p4), (.int p5), (.int p6)] ∧ Z.Warmed39 U.vm ∧ U.heap = h0) (fun _ _ _ _ _ => True) (fun _ U o U' => ∃ v L, o = .returned v ∧ Q0 n0 v U'.heap L ∧ FrameEnd U o U' L room_1.cells room_1.slots) := by
  refine MetFree.of_bodySF (plainFor_of_name pn_0) hisR ?_
  intro p e s m args below meth c s₁ Bd hml0 hP hK
  obtain ⟨rfl, hZ, hh⟩ := hP
  have hx := Bd.exec
  have hby := Bd.bytes
  have hml : c.maxLocals = 14 := hml0
  have hown : s.vm.findClass "com/example/stierlin/stierlin/wire/compression/OutputWindowHoldsPinLaw" = some m.cls := findClass_of_methodNamed Bd.named
  have hnm := (name_of_methodNamed Bd.named Bd.method).1
  have X0 : Stand p l e room_1 s m #[(.int p1), (.int p2), (.int p3), (.int p4), (.int p5), (.int p6)] below meth c s₁ [] 0 0 := Stand.of_body Bd
  have e0 : s₁.heap = h0 := by rw [← hh, Bd.state]; rfl
  have N0 := Fr.nil n0
  have pre0 : ∀ t, Steps p.tables e below (s₁.setTop (mkF m 0 #[.val (.int p1), .val (.int p2), .val (.int p3), .val (.int p4), .val (.int p5), .val (.int p6), .unset, .unset, .unset, .unset, .unset, .unset, .unset, .unset] [])) t → Steps p.tables e below (s₁.setTop (entryFrame m #[(.int p1), (.int p2), (.int p3), (.int p4), (.int p5), (.int p6)] maxLocals)) t := fun t k => castTop (ef_0 m p1 p2 p3 p4 p5 p6) k
  have pre1 : ∀ t, Steps p.tables e below (s₁.setTop (mkF m 12 #[.val (.int p1), .val (.int p2), .val (.int p3), .val (.int p4), .val (.int p5), .val (.int p6), .val (.int (p1 &&& (8388607 : Int32))), .val (.int (p2 &&& (16777215 : Int32))), .unset, .unset, .unset, .unset, .unset, .unset] [])) t → Steps p.tables e below (s₁.setTop (entryFrame m #[(.int p1), (.int p2), (.int p3), (.int p4), (.int p5), (.int p6)] maxLocals)) t := by
    intro t kt
    refine pre0 t ?_
    show Steps p.tables e below (s₁.setTop (mkF m 0 #[.val (.int p1), .val (.int p2), .val (.int p3), .val (.int p4), .val (.int p5), .val (.int p6), .unset, .unset, .unset, .unset, .unset, .unset, .unset, .unset] [])) _
    refine XS.iloadN X0.here hx rfl (hb hby at_0) rfl ?_
    show Steps p.tables e below (s₁.setTop (mkF m 1 #[.val (.int p1), .val (.int p2), .val (.int p3), .val (.int p4), .val (.int p5), .val (.int p6), .unset, .unset, .unset, .unset, .unset, .unset, .unset, .unset] [(.int p1)])) _
    refine X0.ldcInt hx hown (mvT hZ (hw _ (List.mem_of_getElem? (i := 0) rfl))) (g := (mkF m 1 #[.val (.int p1), .val (.int p2), .val (.int p3), .val (.int p4), .val (.int p5), .val (.int p6), .unset, .unset, .unset, .unset, .unset, .unset, .unset, .unset] [(.int p1)])) rfl (hb hby at_1) _ ?_
    show Steps p.tables e below (s₁.setTop (mkF m 3 #[.val (.int p1), .val (.int p2), .val (.int p3), .val (.int p4), .val (.int p5), .val (.int p6), .unset, .unset, .unset, .unset, .unset, .unset, .unset, .unset] [(.int (8388607 : Int32)), (.int p1)])) _
    refine XS.iand X0.here hx rfl (hb hby at_3) rfl ?_
    show Steps p.tables e below (s₁.setTop (mkF m 4 #[.val (.int p1), .val (.int p2), .val (.int p3), .val (.int p4), .val (.int p5), .val (.int p6), .unset, .unset, .unset, .unset, .unset, .unset, .unset, .unset] [(.int (p1 &&& (8388607 : Int32)))])) _
    refine XS.istore X0.here hx rfl (hb hby at_4) rfl (l' := #[.val (.int p1), .val (.int p2), .val (.int p3), .val (.int p4), .val (.int p5), .val (.int p6), .val (.int (p1 &&& (8388607 : Int32))), .unset, .unset, .unset, .unset, .unset, .unset, .unset]) rfl ?_
    show Steps p.tables e below (s₁.setTop (mkF m 6 #[.val (.int p1), .val (.int p2), .val (.int p3), .val (.int p4), .val (.int p5), .val (.int p6), .val (.int (p1 &&& (8388607 : Int32))), .unset, .unset, .unset, .unset, .unset, .unset, .unset] [])) _
    refine XS.iloadN X0.here hx rfl (hb hby at_6) rfl ?_
    show Steps p.tables e below (s₁.setTop (mkF m 7 #[.val (.int p1), .val (.int p2), .val (.int p3), .val (.int p4), .val (.int p5), .val (.int p6), .val (.int (p1 &&& (8388607 : Int32))), .unset, .unset, .unset, .unset, .unset, .unset, .unset] [(.int p2)])) _
    refine X0.ldcInt hx hown (mvT hZ (hw _ (List.mem_of_getElem? (i := 1) rfl))) (g := (mkF m 7 #[.val (.int p1), .val (.int p2), .val (.int p3), .val (.int p4), .val (.int p5), .val (.int p6), .val (.int (p1 &&& (8388607 : Int32))), .unset, .unset, .unset, .unset, .unset, .unset, .unset] [(.int p2)])) rfl (hb hby at_7) _ ?_
    show Steps p.tables e below (s₁.setTop (mkF m 9 #[.val (.int p1), .val (.int p2), .val (.int p3), .val (.int p4), .val (.int p5), .val (.int p6), .val (.int (p1 &&& (8388607 : Int32))), .unset, .unset, .unset, .unset, .unset, .unset, .unset] [(.int (16777215 : Int32)), (.int p2)])) _
    refine XS.iand X0.here hx rfl (hb hby at_9) rfl ?_
    show Steps p.tables e below (s₁.setTop (mkF m 10 #[.val (.int p1), .val (.int p2), .val (.int p3), .val (.int p4), .val (.int p5), .val (.int p6), .val (.int (p1 &&& (8388607 : Int32))), .unset, .unset, .unset, .unset, .unset, .unset, .unset] [(.int (p2 &&& (16777215 : Int32)))])) _
    refine XS.istore X0.here hx rfl (hb hby at_10) rfl (l' := #[.val (.int p1), .val (.int p2), .val (.int p3), .val (.int p4), .val (.int p5), .val (.int p6), .val (.int (p1 &&& (8388607 : Int32))), .val (.int (p2 &&& (16777215 : Int32))), .unset, .unset, .unset, .unset, .unset, .unset]) rfl ?_
    exact kt
  obtain ⟨T2, h2, X2, e2, E2, A2, D2, -, st2⟩ := newO X0 hx hZ hown (hw _ (List.mem_of_getElem? (i := 2) rfl)) (hw _ (List.mem_of_getElem? (i := 3) rfl)) (hw _ (List.mem_of_getElem? (i := 4) rfl)) e0 (g := (mkF m 12 #[.val (.int p1), .val (.int p2), .val (.int p3), .val (.int p4), .val (.int p5), .val (.int p6), .val (.int (p1 &&& (8388607 : Int32))), .val (.int (p2 &&& (16777215 : Int32))), .unset, .unset, .unset, .unset, .unset, .unset] [])) rfl (hb hby at_12) (by decide) (by decide)
  obtain ⟨b2, g2⟩ : ∃ z, z = h0.size := ⟨_, rfl⟩
  have g_b2 : n0 ≤ b2 := Nat.le_trans Z0 (Nat.le_of_eq g2.symm)
  have sz_b2 : h0.size ≤ b2 := Nat.le_trans (Keep.refl h0 []).1 (Nat.le_of_eq g2.symm)
  rw [← g2] at A2 D2 st2
  have K2 : Keep h0 h2 [] := (Keep.refl h0 []).ext E2
  have Z2 : n0 ≤ h2.size := Nat.le_trans Z0 E2.1
  have F_history_b2 : Fld Z h2 b2 "com/example/stierlin/stierlin/wire/compression/OutputWindow" "history" "I" (.int (0 : Int32)) := D2 (Or.inr (hw _ (List.mem_of_getElem? (i := 12) rfl))) (ty := .int) (by decide)
  have F_chunk_b2 : Fld Z h2 b2 "com/example/stierlin/stierlin/wire/compression/OutputWindow" "chunk" "I" (.int (0 : Int32)) := D2 (Or.inr (hw _ (List.mem_of_getElem? (i := 14) rfl))) (ty := .int) (by decide)
  have F_fullCapacity_b2 : Fld Z h2 b2 "com/example/stierlin/stierlin/wire/compression/OutputWindow" "fullCapacity" "I" (.int (0 : Int32)) := D2 (Or.inr (hw _ (List.mem_of_getElem? (i := 16) rfl))) (ty := .int) (by decide)
  have F_ring_b2 : Fld Z h2 b2 "com/example/stierlin/stierlin/wire/compression/OutputWindow" "ring" "[B" .null := D2 (Or.inl (hw _ (List.mem_of_getElem? (i := 24) rfl))) (ty := (.array .byte)) (by decide)
  have pre2 : ∀ t, Steps p.tables e below (T2.setTop (mkF m 15 #[.val (.int p1), .val (.int p2), .val (.int p3), .val (.int p4), .val (.int p5), .val (.int p6), .val (.int (p1 &&& (8388607 : Int32))), .val (.int (p2 &&& (16777215 : Int32))), .unset, .unset, .unset, .unset, .unset, .unset] [(.ref b2)])) t → Steps p.tables e below (s₁.setTop (entryFrame m #[(.int p1), (.int p2), (.int p3), (.int p4), (.int p5), (.int p6)] maxLocals)) t := fun t kt => pre1 t (st2 _ kt)
  have pre3 : ∀ t, Steps p.tables e below (T2.setTop (mkF m 20 #[.val (.int p1), .val (.int p2), .val (.int p3), .val (.int p4), .val (.int p5), .val (.int p6), .val (.int (p1 &&& (8388607 : Int32))), .val (.int (p2 &&& (16777215 : Int32))), .unset, .unset, .unset, .unset, .unset, .unset] [(.int (p2 &&& (16777215 : Int32))), (.int (p1 &&& (8388607 : Int32))), (.ref b2), (.ref b2)])) t → Steps p.tables e below (s₁.setTop (entryFrame m #[(.int p1), (.int p2), (.int p3), (.int p4), (.int p5), (.int p6)] maxLocals)) t := by
    intro t kt
    refine pre2 t ?_
    show Steps p.tables e below (T2.setTop (mkF m 15 #[.val (.int p1), .val (.int p2), .val (.int p3), .val (.int p4), .val (.int p5), .val (.int p6), .val (.int (p1 &&& (8388607 : Int32))), .val (.int (p2 &&& (16777215 : Int32))), .unset, .unset, .unset, .unset, .unset, .unset] [(.ref b2)])) _
    refine XS.dup X2.here hx rfl (hb hby at_15) rfl rfl ?_
    show Steps p.tables e below (T2.setTop (mkF m 16 #[.val (.int p1), .val (.int p2), .val (.int p3), .val (.int p4), .val (.int p5), .val (.int p6), .val (.int (p1 &&& (8388607 : Int32))), .val (.int (p2 &&& (16777215 : Int32))), .unset, .unset, .unset, .unset, .unset, .unset] [(.ref b2), (.ref b2)])) _
    refine XS.iload X2.here hx rfl (hb hby at_16) rfl ?_
    show Steps p.tables e below (T2.setTop (mkF m 18 #[.val (.int p1), .val (.int p2), .val (.int p3), .val (.int p4), .val (.int p5), .val (.int p6), .val (.int (p1 &&& (8388607 : Int32))), .val (.int (p2 &&& (16777215 : Int32))), .unset, .unset, .unset, .unset, .unset, .unset] [(.int (p1 &&& (8388607 : Int32))), (.ref b2), (.ref b2)])) _
    refine XS.iload X2.here hx rfl (hb hby at_18) rfl ?_
    exact kt
  obtain ⟨_, _, ⟨T4, L4, k4, n4⟩, -, X4, ⟨Lc4, hQ4, l4, y4, z4⟩, st4⟩ := X2.specialBack hx (y := (⟨"com/example/stierlin/stierlin/wire/compression/OutputWindow", "<init>", "(II)V"⟩ : MethodName)) rfl hown (mvT hZ (hw _ (List.mem_of_getElem? (i := 5) rfl))) (mvT hZ (hw _ (List.mem_of_getElem? (i := 6) rfl))) (mvT hZ (hw _ (List.mem_of_getElem? (i := 7) rfl))) (by decide) (backOf (W := 1) (rm1 l Z a0 hw [] b2 (p1 &&& (8388607 : Int32)) (p2 &&& (16777215 : Int32)) h2 n0 Z2 A2 F_history_b2 F_chunk_b2 F_fullCapacity_b2 F_ring_b2 g_b2 (own_sum _ _)) hZ (hw _ (List.mem_of_getElem? (i := 7) rfl)) (hw _ (List.mem_of_getElem? (i := 4) rfl)) (by decide) (by decide)) (g := (mkF m 20 #[.val (.int p1), .val (.int p2), .val (.int p3), .val (.int p4), .val (.int p5), .val (.int p6), .val (.int (p1 &&& (8388607 : Int32))), .val (.int (p2 &&& (16777215 : Int32))), .unset, .unset, .unset, .unset, .unset, .unset] [(.int (p2 &&& (16777215 : Int32))), (.int (p1 &&& (8388607 : Int32))), (.ref b2), (.ref b2)])) rfl (by rw [hml]; rfl) (Steps.refl _) (a := b2) (argsL := [(.int (p1 &&& (8388607 : Int32))), (.int (p2 &&& (16777215 : Int32)))]) (rest := [(.ref b2)]) (lenOf pd_1 rfl) rfl (by show 2 * 0 + _ ≤ _; exact Nat.le_of_eq rfl) (hb hby at_20) (fun _ _ => ⟨rfl, e2, (by decide : 1 + 1 ≤ _), (by decide : 8 + 65536 ≤ _)⟩)
  dsimp only [Pt.U, Pt.locs, Pt.cells, Pt.slots] at X4 l4 y4 z4 st4 hQ4
  subst l4 y4 z4
  obtain ⟨rfl, N4q, KC4, P4_0, P4_1, P4_2⟩ := hQ4
  have N4 := Fr.app N0 N4q
  have Z4 : n0 ≤ T4.heap.size := Nat.le_trans Z2 KC4.1
  have K4 : Keep h0 T4.heap [] := K2.trans KC4 (allS (Or.inr sz_b2) all0)
  have A2_5 := A2.keep KC4
  have E_b2_4 : Exa Z T4.heap b2 "com/example/stierlin/stierlin/wire/compression/OutputWindow" := P4_0
  have F_history_b2_4 : Fld Z T4.heap b2 "com/example/stierlin/stierlin/wire/compression/OutputWindow" "history" "I" (.int (p1 &&& (8388607 : Int32))) := P4_1
  have F_chunk_b2_4 : Fld Z T4.heap b2 "com/example/stierlin/stierlin/wire/compression/OutputWindow" "chunk" "I" (.int (p2 &&& (16777215 : Int32))) := P4_2
  have pre4 : ∀ t, Steps p.tables e below (T4.setTop (mkF m 23 #[.val (.int p1), .val (.int p2), .val (.int p3), .val (.int p4), .val (.int p5), .val (.int p6), .val (.int (p1 &&& (8388607 : Int32))), .val (.int (p2 &&& (16777215 : Int32))), .unset, .unset, .unset, .unset, .unset, .unset] [(.ref b2)])) t → Steps p.tables e below (s₁.setTop (entryFrame m #[(.int p1), (.int p2), (.int p3), (.int p4), (.int p5), (.int p6)] maxLocals)) t := fun t kt => pre3 t (st4.trans kt)
  have pre10 : ∀ t, Steps p.tables e below (T4.setTop (mkF m 30 #[.val (.int p1), .val (.int p2), .val (.int p3), .val (.int p4), .val (.int p5), .val (.int p6), .val (.int (p1 &&& (8388607 : Int32))), .val (.int (p2 &&& (16777215 : Int32))), .val (.ref b2), .unset, .unset, .unset, .unset, .unset] [(.int (p1 &&& (8388607 : Int32))), (.int p5), (.int p3)])) t → Steps p.tables e below (s₁.setTop (entryFrame m #[(.int p1), (.int p2), (.int p3), (.int p4), (.int p5), (.int p6)] maxLocals)) t := by
    intro t kt
    refine pre4 t ?_
    show Steps p.tables e below (T4.setTop (mkF m 23 #[.val (.int p1), .val (.int p2), .val (.int p3), .val (.int p4), .val (.int p5), .val (.int p6), .val (.int (p1 &&& (8388607 : Int32))), .val (.int (p2 &&& (16777215 : Int32))), .unset, .unset, .unset, .unset, .unset, .unset] [(.ref b2)])) _
    refine XS.astore X4.here hx rfl (hb hby at_23) rfl rfl (l' := #[.val (.int p1), .val (.int p2), .val (.int p3), .val (.int p4), .val (.int p5), .val (.int p6), .val (.int (p1 &&& (8388607 : Int32))), .val (.int (p2 &&& (16777215 : Int32))), .val (.ref b2), .unset, .unset, .unset, .unset, .unset]) rfl ?_
    show Steps p.tables e below (T4.setTop (mkF m 25 #[.val (.int p1), .val (.int p2), .val (.int p3), .val (.int p4), .val (.int p5), .val (.int p6), .val (.int (p1 &&& (8388607 : Int32))), .val (.int (p2 &&& (16777215 : Int32))), .val (.ref b2), .unset, .unset, .unset, .unset, .unset] [])) _
    refine XS.iloadN X4.here hx rfl (hb hby at_25) rfl ?_
    show Steps p.tables e below (T4.setTop (mkF m 26 #[.val (.int p1), .val (.int p2), .val (.int p3), .val (.int p4), .val (.int p5), .val (.int p6), .val (.int (p1 &&& (8388607 : Int32))), .val (.int (p2 &&& (16777215 : Int32))), .val (.ref b2), .unset, .unset, .unset, .unset, .unset] [(.int p3)])) _
    refine XS.iload X4.here hx rfl (hb hby at_26) rfl ?_
    show Steps p.tables e below (T4.setTop (mkF m 28 #[.val (.int p1), .val (.int p2), .val (.int p3), .val (.int p4), .val (.int p5), .val (.int p6), .val (.int (p1 &&& (8388607 : Int32))), .val (.int (p2 &&& (16777215 : Int32))), .val (.ref b2), .unset, .unset, .unset, .unset, .unset] [(.int p5), (.int p3)])) _
    refine XS.iload X4.here hx rfl (hb hby at_28) rfl ?_
    exact kt
  obtain ⟨_, _, ⟨T11, L11, k11, n11⟩, -, X11, ⟨Lc11, hQ11, l11, y11, z11⟩, st11⟩ := Jvm.LawKit.callS X4 hx (y := (⟨"com/example/stierlin/stierlin/wire/compression/OutputWindowHoldsPinLaw", "pick", "(III)I"⟩ : MethodName)) hown (mvT hZ (hw _ (List.mem_of_getElem? (i := 25) rfl))) (mvT hZ (hw _ (List.mem_of_getElem? (i := 26) rfl))) (mvT hZ (hw _ (List.mem_of_getElem? (i := 27) rfl))) (mvT hZ (hw _ (List.mem_of_getElem? (i := 28) rfl))) (by decide) (backOf (W := 0) (rm4 l Z a0 hw [] p3 p5 (p1 &&& (8388607 : Int32)) T4.heap n0) hZ (hw _ (List.mem_of_getElem? (i := 28) rfl)) (hw _ (List.mem_of_getElem? (i := 27) rfl)) (by decide) (by decide)) (g := (mkF m 30 #[.val (.int p1), .val (.int p2), .val (.int p3), .val (.int p4), .val (.int p5), .val (.int p6), .val (.int (p1 &&& (8388607 : Int32))), .val (.int (p2 &&& (16777215 : Int32))), .val (.ref b2), .unset, .unset, .unset, .unset, .unset] [(.int (p1 &&& (8388607 : Int32))), (.int p5), (.int p3)])) rfl (by rw [hml]; rfl) (argsL := [(.int p3), (.int p5), (.int (p1 &&& (8388607 : Int32)))]) (rest := []) (lenOf pd_2 rfl) rfl (by show 2 * 0 + _ ≤ _; exact Nat.le_of_eq rfl) (hb hby at_30) (fun _ _ => ⟨rfl, rfl, (by decide : 2 + 0 ≤ _), (by decide : 65544 + 0 ≤ _)⟩)
  dsimp only [Pt.U, Pt.locs, Pt.cells, Pt.slots] at X11 l11 y11 z11 st11 hQ11
  subst l11 y11 z11
  obtain ⟨rfl, N11q, e11⟩ := hQ11
  have N11 := Fr.app N4 N11q
  have pre11 : ∀ t, Steps p.tables e below (T11.setTop (mkF m 33 #[.val (.int p1), .val (.int p2), .val (.int p3), .val (.int p4), .val (.int p5), .val (.int p6), .val (.int (p1 &&& (8388607 : Int32))), .val (.int (p2 &&& (16777215 : Int32))), .val (.ref b2), .unset, .unset, .unset, .unset, .unset] [(.int (own_f4 p3 p5 (p1 &&& (8388607 : Int32))))])) t → Steps p.tables e below (s₁.setTop (entryFrame m #[(.int p1), (.int p2), (.int p3), (.int p4), (.int p5), (.int p6)] maxLocals)) t := fun t kt => pre10 t (st11 _ kt)
  have pre12 : ∀ t, Steps p.tables e below (T11.setTop (mkF m 40 #[.val (.int p1), .val (.int p2), .val (.int p3), .val (.int p4), .val (.int p5), .val (.int p6), .val (.int (p1 &&& (8388607 : Int32))), .val (.int (p2 &&& (16777215 : Int32))), .val (.ref b2), .val (.int (own_f4 p3 p5 (p1 &&& (8388607 : Int32)))), .unset, .unset, .unset, .unset] [(.int (p2 &&& (16777215 : Int32))), (.int p6), (.int p4)])) t → Steps p.tables e below (s₁.setTop (entryFrame m #[(.int p1), (.int p2), (.int p3), (.int p4), (.int p5), (.int p6)] maxLocals)) t := by
    intro t kt
    refine pre11 t ?_
    show Steps p.tables e below (T11.setTop (mkF m 33 #[.val (.int p1), .val (.int p2), .val (.int p3), .val (.int p4), .val (.int p5), .val (.int p6), .val (.int (p1 &&& (8388607 : Int32))), .val (.int (p2 &&& (16777215 : Int32))), .val (.ref b2), .unset, .unset, .unset, .unset, .unset] [(.int (own_f4 p3 p5 (p1 &&& (8388607 : Int32))))])) _
    refine XS.istore X11.here hx rfl (hb hby at_33) rfl (l' := #[.val (.int p1), .val (.int p2), .val (.int p3), .val (.int p4), .val (.int p5), .val (.int p6), .val (.int (p1 &&& (8388607 : Int32))), .val (.int (p2 &&& (16777215 : Int32))), .val (.ref b2), .val (.int (own_f4 p3 p5 (p1 &&& (8388607 : Int32)))), .unset, .unset, .unset, .unset]) rfl ?_
    show Steps p.tables e below (T11.setTop (mkF m 35 #[.val (.int p1), .val (.int p2), .val (.int p3), .val (.int p4), .val (.int p5), .val (.int p6), .val (.int (p1 &&& (8388607 : Int32))), .val (.int (p2 &&& (16777215 : Int32))), .val (.ref b2), .val (.int (own_f4 p3 p5 (p1 &&& (8388607 : Int32)))), .unset, .unset, .unset, .unset] [])) _
    refine XS.iloadN X11.here hx rfl (hb hby at_35) rfl ?_
    show Steps p.tables e below (T11.setTop (mkF m 36 #[.val (.int p1), .val (.int p2), .val (.int p3), .val (.int p4), .val (.int p5), .val (.int p6), .val (.int (p1 &&& (8388607 : Int32))), .val (.int (p2 &&& (16777215 : Int32))), .val (.ref b2), .val (.int (own_f4 p3 p5 (p1 &&& (8388607 : Int32)))), .unset, .unset, .unset, .unset] [(.int p4)])) _
    refine XS.iload X11.here hx rfl (hb hby at_36) rfl ?_
    show Steps p.tables e below (T11.setTop (mkF m 38 #[.val (.int p1), .val (.int p2), .val (.int p3), .val (.int p4), .val (.int p5), .val (.int p6), .val (.int (p1 &&& (8388607 : Int32))), .val (.int (p2 &&& (16777215 : Int32))), .val (.ref b2), .val (.int (own_f4 p3 p5 (p1 &&& (8388607 : Int32)))), .unset, .unset, .unset, .unset] [(.int p6), (.int p4)])) _
    refine XS.iload X11.here hx rfl (hb hby at_38) rfl ?_
    exact kt
  obtain ⟨_, _, ⟨T13, L13, k13, n13⟩, -, X13, ⟨Lc13, hQ13, l13, y13, z13⟩, st13⟩ := Jvm.LawKit.callS X11 hx (y := (⟨"com/example/stierlin/stierlin/wire/compression/OutputWindowHoldsPinLaw", "pick", "(III)I"⟩ : MethodName)) hown (mvT hZ (hw _ (List.mem_of_getElem? (i := 25) rfl))) (mvT hZ (hw _ (List.mem_of_getElem? (i := 26) rfl))) (mvT hZ (hw _ (List.mem_of_getElem? (i := 27) rfl))) (mvT hZ (hw _ (List.mem_of_getElem? (i := 28) rfl))) (by decide) (backOf (W := 0) (rm4 l Z a0 hw [] p4 p6 (p2 &&& (16777215 : Int32)) T4.heap n0) hZ (hw _ (List.mem_of_getElem? (i := 28) rfl)) (hw _ (List.mem_of_getElem? (i := 27) rfl)) (by decide) (by decide)) (g := (mkF m 40 #[.val (.int p1), .val (.int p2), .val (.int p3), .val (.int p4), .val (.int p5), .val (.int p6), .val (.int (p1 &&& (8388607 : Int32))), .val (.int (p2 &&& (16777215 : Int32))), .val (.ref b2), .val (.int (own_f4 p3 p5 (p1 &&& (8388607 : Int32)))), .unset, .unset, .unset, .unset] [(.int (p2 &&& (16777215 : Int32))), (.int p6), (.int p4)])) rfl (by rw [hml]; rfl) (argsL := [(.int p4), (.int p6), (.int (p2 &&& (16777215 : Int32)))]) (rest := []) (lenOf pd_2 rfl) rfl (by show 2 * 0 + _ ≤ _; exact Nat.le_of_eq rfl) (hb hby at_40) (fun _ _ => ⟨rfl, e11, (by decide : 2 + 0 ≤ _), (by decide : 65544 + 0 ≤ _)⟩)
  dsimp only [Pt.U, Pt.locs, Pt.cells, Pt.slots] at X13 l13 y13 z13 st13 hQ13
  subst l13 y13 z13
  obtain ⟨rfl, N13q, e13⟩ := hQ13
  have N13 := Fr.app N11 N13q
  have pre13 : ∀ t, Steps p.tables e below (T13.setTop (mkF m 43 #[.val (.int p1), .val (.int p2), .val (.int p3), .val (.int p4), .val (.int p5), .val (.int p6), .val (.int (p1 &&& (8388607 : Int32))), .val (.int (p2 &&& (16777215 : Int32))), .val (.ref b2), .val (.int (own_f4 p3 p5 (p1 &&& (8388607 : Int32)))), .unset, .unset, .unset, .unset] [(.int (own_f4 p4 p6 (p2 &&& (16777215 : Int32))))])) t → Steps p.tables e below (s₁.setTop (entryFrame m #[(.int p1), (.int p2), (.int p3), (.int p4), (.int p5), (.int p6)] maxLocals)) t := fun t kt => pre12 t (st13 _ kt)
  have pre14 : ∀ t, Steps p.tables e below (T13.setTop (mkF m 49 #[.val (.int p1), .val (.int p2), .val (.int p3), .val (.int p4), .val (.int p5), .val (.int p6), .val (.int (p1 &&& (8388607 : Int32))), .val (.int (p2 &&& (16777215 : Int32))), .val (.ref b2), .val (.int (own_f4 p3 p5 (p1 &&& (8388607 : Int32)))), .val (.int (own_f4 p4 p6 (p2 &&& (16777215 : Int32)))), .unset, .unset, .unset] [(.int (p1 &&& (8388607 : Int32))), (.int (own_f4 p3 p5 (p1 &&& (8388607 : Int32))))])) t → Steps p.tables e below (s₁.setTop (entryFrame m #[(.int p1), (.int p2), (.int p3), (.int p4), (.int p5), (.int p6)] maxLocals)) t := by
    intro t kt
    refine pre13 t ?_
    show Steps p.tables e below (T13.setTop (mkF m 43 #[.val (.int p1), .val (.int p2), .val (.int p3), .val (.int p4), .val (.int p5), .val (.int p6), .val (.int (p1 &&& (8388607 : Int32))), .val (.int (p2 &&& (16777215 : Int32))), .val (.ref b2), .val (.int (own_f4 p3 p5 (p1 &&& (8388607 : Int32)))), .unset, .unset, .unset, .unset] [(.int (own_f4 p4 p6 (p2 &&& (16777215 : Int32))))])) _
    refine XS.istore X13.here hx rfl (hb hby at_43) rfl (l' := #[.val (.int p1), .val (.int p2), .val (.int p3), .val (.int p4), .val (.int p5), .val (.int p6), .val (.int (p1 &&& (8388607 : Int32))), .val (.int (p2 &&& (16777215 : Int32))), .val (.ref b2), .val (.int (own_f4 p3 p5 (p1 &&& (8388607 : Int32)))), .val (.int (own_f4 p4 p6 (p2 &&& (16777215 : Int32)))), .unset, .unset, .unset]) rfl ?_
    show Steps p.tables e below (T13.setTop (mkF m 45 #[.val (.int p1), .val (.int p2), .val (.int p3), .val (.int p4), .val (.int p5), .val (.int p6), .val (.int (p1 &&& (8388607 : Int32))), .val (.int (p2 &&& (16777215 : Int32))), .val (.ref b2), .val (.int (own_f4 p3 p5 (p1 &&& (8388607 : Int32)))), .val (.int (own_f4 p4 p6 (p2 &&& (16777215 : Int32)))), .unset, .unset, .unset] [])) _
    refine XS.iload X13.here hx rfl (hb hby at_45) rfl ?_
    show Steps p.tables e below (T13.setTop (mkF m 47 #[.val (.int p1), .val (.int p2), .val (.int p3), .val (.int p4), .val (.int p5), .val (.int p6), .val (.int (p1 &&& (8388607 : Int32))), .val (.int (p2 &&& (16777215 : Int32))), .val (.ref b2), .val (.int (own_f4 p3 p5 (p1 &&& (8388607 : Int32)))), .val (.int (own_f4 p4 p6 (p2 &&& (16777215 : Int32)))), .unset, .unset, .unset] [(.int (own_f4 p3 p5 (p1 &&& (8388607 : Int32))))])) _
    refine XS.iload X13.here hx rfl (hb hby at_47) rfl ?_
    exact kt
  obtain ⟨v15_0, hv15_0, pre15⟩ : ∃ (v15_0 : Int32), v15_0 = (if (p1 &&& (8388607 : Int32)) < (own_f4 p3 p5 (p1 &&& (8388607 : Int32))) then (0 : Int32) else (if (p2 &&& (16777215 : Int32)) < (own_f4 p4 p6 (p2 &&& (16777215 : Int32))) then (0 : Int32) else (1 : Int32))) ∧ ∀ t, Steps p.tables e below (T13.setTop (mkF m 74 #[.val (.int p1), .val (.int p2), .val (.int p3), .val (.int p4), .val (.int p5), .val (.int p6), .val (.int (p1 &&& (8388607 : Int32))), .val (.int (p2 &&& (16777215 : Int32))), .val (.ref b2), .val (.int (own_f4 p3 p5 (p1 &&& (8388607 : Int32)))), .val (.int (own_f4 p4 p6 (p2 &&& (16777215 : Int32)))), .val (.int v15_0), .unset, .unset] [])) t → Steps p.tables e below (s₁.setTop (entryFrame m #[(.int p1), (.int p2), (.int p3), (.int p4), (.int p5), (.int p6)] maxLocals)) t := by
    refine ⟨_, rfl, ?_⟩
    intro t kt
    refine pre14 t ?_
    show Steps p.tables e below (T13.setTop (mkF m 49 #[.val (.int p1), .val (.int p2), .val (.int p3), .val (.int p4), .val (.int p5), .val (.int p6), .val (.int (p1 &&& (8388607 : Int32))), .val (.int (p2 &&& (16777215 : Int32))), .val (.ref b2), .val (.int (own_f4 p3 p5 (p1 &&& (8388607 : Int32)))), .val (.int (own_f4 p4 p6 (p2 &&& (16777215 : Int32)))), .unset, .unset, .unset] [(.int (p1 &&& (8388607 : Int32))), (.int (own_f4 p3 p5 (p1 &&& (8388607 : Int32))))])) _
    by_cases hc49 : (p1 &&& (8388607 : Int32)) < (own_f4 p3 p5 (p1 &&& (8388607 : Int32)))
    · (try simp only [if_pos hc49] at kt)
      refine XS.icmpNo X13.here hx rfl (hb hby at_49) rfl (tlt hc49).2.2.2 ?_
      show Steps p.tables e below (T13.setTop (mkF m 52 #[.val (.int p1), .val (.int p2), .val (.int p3), .val (.int p4), .val (.int p5), .val (.int p6), .val (.int (p1 &&& (8388607 : Int32))), .val (.int (p2 &&& (16777215 : Int32))), .val (.ref b2), .val (.int (own_f4 p3 p5 (p1 &&& (8388607 : Int32)))), .val (.int (own_f4 p4 p6 (p2 &&& (16777215 : Int32)))), .unset, .unset, .unset] [])) _
      refine XS.iconst X13.here hx rfl (hb hby at_52) ?_
      show Steps p.tables e below (T13.setTop (mkF m 53 #[.val (.int p1), .val (.int p2), .val (.int p3), .val (.int p4), .val (.int p5), .val (.int p6), .val (.int (p1 &&& (8388607 : Int32))), .val (.int (p2 &&& (16777215 : Int32))), .val (.ref b2), .val (.int (own_f4 p3 p5 (p1 &&& (8388607 : Int32)))), .val (.int (own_f4 p4 p6 (p2 &&& (16777215 : Int32)))), .unset, .unset, .unset] [(.int (0 : Int32))])) _
      refine XS.istore X13.here hx rfl (hb hby at_53) rfl (l' := #[.val (.int p1), .val (.int p2), .val (.int p3), .val (.int p4), .val (.int p5), .val (.int p6), .val (.int (p1 &&& (8388607 : Int32))), .val (.int (p2 &&& (16777215 : Int32))), .val (.ref b2), .val (.int (own_f4 p3 p5 (p1 &&& (8388607 : Int32)))), .val (.int (own_f4 p4 p6 (p2 &&& (16777215 : Int32)))), .val (.int (0 : Int32)), .unset, .unset]) rfl ?_
      show Steps p.tables e below (T13.setTop (mkF m 55 #[.val (.int p1), .val (.int p2), .val (.int p3), .val (.int p4), .val (.int p5), .val (.int p6), .val (.int (p1 &&& (8388607 : Int32))), .val (.int (p2 &&& (16777215 : Int32))), .val (.ref b2), .val (.int (own_f4 p3 p5 (p1 &&& (8388607 : Int32)))), .val (.int (own_f4 p4 p6 (p2 &&& (16777215 : Int32)))), .val (.int (0 : Int32)), .unset, .unset] [])) _
      refine XS.goto X13.here hx rfl (pc0 := 55) (pc' := 74) rfl (hb hby at_55) (by decide) (by decide) ?_
      exact kt
    · (try simp only [if_neg hc49] at kt)
      refine XS.icmpYes X13.here hx rfl (pc0 := 49) (pc' := 58) rfl (hb hby at_49) rfl (flt hc49).2.2.2 (by decide) (by decide) ?_
      show Steps p.tables e below (T13.setTop (mkF m 58 #[.val (.int p1), .val (.int p2), .val (.int p3), .val (.int p4), .val (.int p5), .val (.int p6), .val (.int (p1 &&& (8388607 : Int32))), .val (.int (p2 &&& (16777215 : Int32))), .val (.ref b2), .val (.int (own_f4 p3 p5 (p1 &&& (8388607 : Int32)))), .val (.int (own_f4 p4 p6 (p2 &&& (16777215 : Int32)))), .unset, .unset, .unset] [])) _
      refine XS.iload X13.here hx rfl (hb hby at_58) rfl ?_
      show Steps p.tables e below (T13.setTop (mkF m 60 #[.val (.int p1), .val (.int p2), .val (.int p3), .val (.int p4), .val (.int p5), .val (.int p6), .val (.int (p1 &&& (8388607 : Int32))), .val (.int (p2 &&& (16777215 : Int32))), .val (.ref b2), .val (.int (own_f4 p3 p5 (p1 &&& (8388607 : Int32)))), .val (.int (own_f4 p4 p6 (p2 &&& (16777215 : Int32)))), .unset, .unset, .unset] [(.int (own_f4 p4 p6 (p2 &&& (16777215 : Int32))))])) _
      refine XS.iload X13.here hx rfl (hb hby at_60) rfl ?_
      show Steps p.tables e below (T13.setTop (mkF m 62 #[.val (.int p1), .val (.int p2), .val (.int p3), .val (.int p4), .val (.int p5), .val (.int p6), .val (.int (p1 &&& (8388607 : Int32))), .val (.int (p2 &&& (16777215 : Int32))), .val (.ref b2), .val (.int (own_f4 p3 p5 (p1 &&& (8388607 : Int32)))), .val (.int (own_f4 p4 p6 (p2 &&& (16777215 : Int32)))), .unset, .unset, .unset] [(.int (p2 &&& (16777215 : Int32))), (.int (own_f4 p4 p6 (p2 &&& (16777215 : Int32))))])) _
      by_cases hc62 : (p2 &&& (16777215 : Int32)) < (own_f4 p4 p6 (p2 &&& (16777215 : Int32)))
      · (try simp only [if_pos hc62] at kt)
        refine XS.icmpNo X13.here hx rfl (hb hby at_62) rfl (tlt hc62).2.2.2 ?_
        show Steps p.tables e below (T13.setTop (mkF m 65 #[.val (.int p1), .val (.int p2), .val (.int p3), .val (.int p4), .val (.int p5), .val (.int p6), .val (.int (p1 &&& (8388607 : Int32))), .val (.int (p2 &&& (16777215 : Int32))), .val (.ref b2), .val (.int (own_f4 p3 p5 (p1 &&& (8388607 : Int32)))), .val (.int (own_f4 p4 p6 (p2 &&& (16777215 : Int32)))), .unset, .unset, .unset] [])) _
        refine XS.iconst X13.here hx rfl (hb hby at_65) ?_
        show Steps p.tables e below (T13.setTop (mkF m 66 #[.val (.int p1), .val (.int p2), .val (.int p3), .val (.int p4), .val (.int p5), .val (.int p6), .val (.int (p1 &&& (8388607 : Int32))), .val (.int (p2 &&& (16777215 : Int32))), .val (.ref b2), .val (.int (own_f4 p3 p5 (p1 &&& (8388607 : Int32)))), .val (.int (own_f4 p4 p6 (p2 &&& (16777215 : Int32)))), .unset, .unset, .unset] [(.int (0 : Int32))])) _
        refine XS.istore X13.here hx rfl (hb hby at_66) rfl (l' := #[.val (.int p1), .val (.int p2), .val (.int p3), .val (.int p4), .val (.int p5), .val (.int p6), .val (.int (p1 &&& (8388607 : Int32))), .val (.int (p2 &&& (16777215 : Int32))), .val (.ref b2), .val (.int (own_f4 p3 p5 (p1 &&& (8388607 : Int32)))), .val (.int (own_f4 p4 p6 (p2 &&& (16777215 : Int32)))), .val (.int (0 : Int32)), .unset, .unset]) rfl ?_
        show Steps p.tables e below (T13.setTop (mkF m 68 #[.val (.int p1), .val (.int p2), .val (.int p3), .val (.int p4), .val (.int p5), .val (.int p6), .val (.int (p1 &&& (8388607 : Int32))), .val (.int (p2 &&& (16777215 : Int32))), .val (.ref b2), .val (.int (own_f4 p3 p5 (p1 &&& (8388607 : Int32)))), .val (.int (own_f4 p4 p6 (p2 &&& (16777215 : Int32)))), .val (.int (0 : Int32)), .unset, .unset] [])) _
        refine XS.goto X13.here hx rfl (pc0 := 68) (pc' := 74) rfl (hb hby at_68) (by decide) (by decide) ?_
        exact kt
      · (try simp only [if_neg hc62] at kt)
        refine XS.icmpYes X13.here hx rfl (pc0 := 62) (pc' := 71) rfl (hb hby at_62) rfl (flt hc62).2.2.2 (by decide) (by decide) ?_
        show Steps p.tables e below (T13.setTop (mkF m 71 #[.val (.int p1), .val (.int p2), .val (.int p3), .val (.int p4), .val (.int p5), .val (.int p6), .val (.int (p1 &&& (8388607 : Int32))), .val (.int (p2 &&& (16777215 : Int32))), .val (.ref b2), .val (.int (own_f4 p3 p5 (p1 &&& (8388607 : Int32)))), .val (.int (own_f4 p4 p6 (p2 &&& (16777215 : Int32)))), .unset, .unset, .unset] [])) _
        refine XS.iconst X13.here hx rfl (hb hby at_71) ?_
        show Steps p.tables e below (T13.setTop (mkF m 72 #[.val (.int p1), .val (.int p2), .val (.int p3), .val (.int p4), .val (.int p5), .val (.int p6), .val (.int (p1 &&& (8388607 : Int32))), .val (.int (p2 &&& (16777215 : Int32))), .val (.ref b2), .val (.int (own_f4 p3 p5 (p1 &&& (8388607 : Int32)))), .val (.int (own_f4 p4 p6 (p2 &&& (16777215 : Int32)))), .unset, .unset, .unset] [(.int (1 : Int32))])) _
        refine XS.istore X13.here hx rfl (hb hby at_72) rfl (l' := #[.val (.int p1), .val (.int p2), .val (.int p3), .val (.int p4), .val (.int p5), .val (.int p6), .val (.int (p1 &&& (8388607 : Int32))), .val (.int (p2 &&& (16777215 : Int32))), .val (.ref b2), .val (.int (own_f4 p3 p5 (p1 &&& (8388607 : Int32)))), .val (.int (own_f4 p4 p6 (p2 &&& (16777215 : Int32)))), .val (.int (1 : Int32)), .unset, .unset]) rfl ?_
        exact kt
  have pre16 : ∀ t, Steps p.tables e below (T13.setTop (mkF m 80 #[.val (.int p1), .val (.int p2), .val (.int p3), .val (.int p4), .val (.int p5), .val (.int p6), .val (.int (p1 &&& (8388607 : Int32))), .val (.int (p2 &&& (16777215 : Int32))), .val (.ref b2), .val (.int (own_f4 p3 p5 (p1 &&& (8388607 : Int32)))), .val (.int (own_f4 p4 p6 (p2 &&& (16777215 : Int32)))), .val (.int v15_0), .unset, .unset] [(.int (own_f4 p4 p6 (p2 &&& (16777215 : Int32)))), (.int (own_f4 p3 p5 (p1 &&& (8388607 : Int32)))), (.ref b2)])) t → Steps p.tables e below (s₁.setTop (entryFrame m #[(.int p1), (.int p2), (.int p3), (.int p4), (.int p5), (.int p6)] maxLocals)) t := by
    intro t kt
    refine pre15 t ?_
    show Steps p.tables e below (T13.setTop (mkF m 74 #[.val (.int p1), .val (.int p2), .val (.int p3), .val (.int p4), .val (.int p5), .val (.int p6), .val (.int (p1 &&& (8388607 : Int32))), .val (.int (p2 &&& (16777215 : Int32))), .val (.ref b2), .val (.int (own_f4 p3 p5 (p1 &&& (8388607 : Int32)))), .val (.int (own_f4 p4 p6 (p2 &&& (16777215 : Int32)))), .val (.int v15_0), .unset, .unset] [])) _
    refine XS.aload X13.here hx rfl (hb hby at_74) rfl rfl ?_
    show Steps p.tables e below (T13.setTop (mkF m 76 #[.val (.int p1), .val (.int p2), .val (.int p3), .val (.int p4), .val (.int p5), .val (.int p6), .val (.int (p1 &&& (8388607 : Int32))), .val (.int (p2 &&& (16777215 : Int32))), .val (.ref b2), .val (.int (own_f4 p3 p5 (p1 &&& (8388607 : Int32)))), .val (.int (own_f4 p4 p6 (p2 &&& (16777215 : Int32)))), .val (.int v15_0), .unset, .unset] [(.ref b2)])) _
    refine XS.iload X13.here hx rfl (hb hby at_76) rfl ?_
    show Steps p.tables e below (T13.setTop (mkF m 78 #[.val (.int p1), .val (.int p2), .val (.int p3), .val (.int p4), .val (.int p5), .val (.int p6), .val (.int (p1 &&& (8388607 : Int32))), .val (.int (p2 &&& (16777215 : Int32))), .val (.ref b2), .val (.int (own_f4 p3 p5 (p1 &&& (8388607 : Int32)))), .val (.int (own_f4 p4 p6 (p2 &&& (16777215 : Int32)))), .val (.int v15_0), .unset, .unset] [(.int (own_f4 p3 p5 (p1 &&& (8388607 : Int32)))), (.ref b2)])) _
    refine XS.iload X13.here hx rfl (hb hby at_78) rfl ?_
    exact kt
  obtain ⟨cq17, kq17, q17a, q17b, q17c⟩ := isOf hZ e13 E_b2_4
  obtain ⟨_, _, ⟨T17, L17, k17, n17⟩, -, X17, ⟨Lc17, hQ17, l17, y17, z17⟩, st17⟩ := X13.virtualBack hx (y := (⟨"com/example/stierlin/stierlin/wire/compression/OutputWindow", "holds", "(II)Z"⟩ : MethodName)) (z := (⟨"com/example/stierlin/stierlin/wire/compression/OutputWindow", "holds", "(II)Z"⟩ : MethodName)) hown (mvT hZ (hw _ (List.mem_of_getElem? (i := 29) rfl))) (mvT hZ (hw _ (List.mem_of_getElem? (i := 30) rfl))) (notFace_of_selects (args := #[]) (mvT hZ (hw _ (List.mem_of_getElem? (i := 32) rfl)))) (mvT hZ (hw _ (List.mem_of_getElem? (i := 32) rfl))) (mvT hZ (hw _ (List.mem_of_getElem? (i := 31) rfl))) (by decide) (backOf (W := 0) (rm5 l Z a0 hw [] b2 (own_f4 p3 p5 (p1 &&& (8388607 : Int32))) (own_f4 p4 p6 (p2 &&& (16777215 : Int32))) (p1 &&& (8388607 : Int32)) (p2 &&& (16777215 : Int32)) T4.heap n0 Z4 F_history_b2_4 F_chunk_b2_4) hZ (hw _ (List.mem_of_getElem? (i := 33) rfl)) (hw _ (List.mem_of_getElem? (i := 4) rfl)) (by decide) (by decide)) q17a q17c (g := (mkF m 80 #[.val (.int p1), .val (.int p2), .val (.int p3), .val (.int p4), .val (.int p5), .val (.int p6), .val (.int (p1 &&& (8388607 : Int32))), .val (.int (p2 &&& (16777215 : Int32))), .val (.ref b2), .val (.int (own_f4 p3 p5 (p1 &&& (8388607 : Int32)))), .val (.int (own_f4 p4 p6 (p2 &&& (16777215 : Int32)))), .val (.int v15_0), .unset, .unset] [(.int (own_f4 p4 p6 (p2 &&& (16777215 : Int32)))), (.int (own_f4 p3 p5 (p1 &&& (8388607 : Int32)))), (.ref b2)])) rfl (by rw [hml]; rfl) (Steps.refl _) (argsL := [(.int (own_f4 p3 p5 (p1 &&& (8388607 : Int32)))), (.int (own_f4 p4 p6 (p2 &&& (16777215 : Int32))))]) (rest := []) (lenOf pd_3 rfl) rfl (by show 2 * 0 + _ ≤ _; exact Nat.le_of_eq rfl) (hb hby at_80) (fun _ _ => ⟨rfl, e13, (by decide : 2 + 0 ≤ _), (by decide : 65544 + 0 ≤ _)⟩)
  dsimp only [Pt.U, Pt.locs, Pt.cells, Pt.slots] at X17 l17 y17 z17 st17 hQ17
  subst l17 y17 z17
  obtain ⟨rfl, N17q, e17⟩ := hQ17
  have N17 := Fr.app N13 N17q
  have pre17 : ∀ t, Steps p.tables e below (T17.setTop (mkF m 83 #[.val (.int p1), .val (.int p2), .val (.int p3), .val (.int p4), .val (.int p5), .val (.int p6), .val (.int (p1 &&& (8388607 : Int32))), .val (.int (p2 &&& (16777215 : Int32))), .val (.ref b2), .val (.int (own_f4 p3 p5 (p1 &&& (8388607 : Int32)))), .val (.int (own_f4 p4 p6 (p2 &&& (16777215 : Int32)))), .val (.int v15_0), .unset, .unset] [(.int (own_holds (p1 &&& (8388607 : Int32)) (p2 &&& (16777215 : Int32)) (own_f4 p3 p5 (p1 &&& (8388607 : Int32))) (own_f4 p4 p6 (p2 &&& (16777215 : Int32)))))])) t → Steps p.tables e below (s₁.setTop (entryFrame m #[(.int p1), (.int p2), (.int p3), (.int p4), (.int p5), (.int p6)] maxLocals)) t := fun t kt => pre16 t (st17.trans kt)
  have pre18 : ∀ t, Steps p.tables e below (T17.setTop (mkF m 91 #[.val (.int p1), .val (.int p2), .val (.int p3), .val (.int p4), .val (.int p5), .val (.int p6), .val (.int (p1 &&& (8388607 : Int32))), .val (.int (p2 &&& (16777215 : Int32))), .val (.ref b2), .val (.int (own_f4 p3 p5 (p1 &&& (8388607 : Int32)))), .val (.int (own_f4 p4 p6 (p2 &&& (16777215 : Int32)))), .val (.int v15_0), .val (.int (own_holds (p1 &&& (8388607 : Int32)) (p2 &&& (16777215 : Int32)) (own_f4 p3 p5 (p1 &&& (8388607 : Int32))) (own_f4 p4 p6 (p2 &&& (16777215 : Int32))))), .unset] [(.int (p2 &&& (16777215 : Int32))), (.int (p1 &&& (8388607 : Int32))), (.ref b2)])) t → Steps p.tables e below (s₁.setTop (entryFrame m #[(.int p1), (.int p2), (.int p3), (.int p4), (.int p5), (.int p6)] maxLocals)) t := by
    intro t kt
    refine pre17 t ?_
    show Steps p.tables e below (T17.setTop (mkF m 83 #[.val (.int p1), .val (.int p2), .val (.int p3), .val (.int p4), .val (.int p5), .val (.int p6), .val (.int (p1 &&& (8388607 : Int32))), .val (.int (p2 &&& (16777215 : Int32))), .val (.ref b2), .val (.int (own_f4 p3 p5 (p1 &&& (8388607 : Int32)))), .val (.int (own_f4 p4 p6 (p2 &&& (16777215 : Int32)))), .val (.int v15_0), .unset, .unset] [(.int (own_holds (p1 &&& (8388607 : Int32)) (p2 &&& (16777215 : Int32)) (own_f4 p3 p5 (p1 &&& (8388607 : Int32))) (own_f4 p4 p6 (p2 &&& (16777215 : Int32)))))])) _
    refine XS.istore X17.here hx rfl (hb hby at_83) rfl (l' := #[.val (.int p1), .val (.int p2), .val (.int p3), .val (.int p4), .val (.int p5), .val (.int p6), .val (.int (p1 &&& (8388607 : Int32))), .val (.int (p2 &&& (16777215 : Int32))), .val (.ref b2), .val (.int (own_f4 p3 p5 (p1 &&& (8388607 : Int32)))), .val (.int (own_f4 p4 p6 (p2 &&& (16777215 : Int32)))), .val (.int v15_0), .val (.int (own_holds (p1 &&& (8388607 : Int32)) (p2 &&& (16777215 : Int32)) (own_f4 p3 p5 (p1 &&& (8388607 : Int32))) (own_f4 p4 p6 (p2 &&& (16777215 : Int32))))), .unset]) rfl ?_
    show Steps p.tables e below (T17.setTop (mkF m 85 #[.val (.int p1), .val (.int p2), .val (.int p3), .val (.int p4), .val (.int p5), .val (.int p6), .val (.int (p1 &&& (8388607 : Int32))), .val (.int (p2 &&& (16777215 : Int32))), .val (.ref b2), .val (.int (own_f4 p3 p5 (p1 &&& (8388607 : Int32)))), .val (.int (own_f4 p4 p6 (p2 &&& (16777215 : Int32)))), .val (.int v15_0), .val (.int (own_holds (p1 &&& (8388607 : Int32)) (p2 &&& (16777215 : Int32)) (own_f4 p3 p5 (p1 &&& (8388607 : Int32))) (own_f4 p4 p6 (p2 &&& (16777215 : Int32))))), .unset] [])) _
    refine XS.aload X17.here hx rfl (hb hby at_85) rfl rfl ?_
    show Steps p.tables e below (T17.setTop (mkF m 87 #[.val (.int p1), .val (.int p2), .val (.int p3), .val (.int p4), .val (.int p5), .val (.int p6), .val (.int (p1 &&& (8388607 : Int32))), .val (.int (p2 &&& (16777215 : Int32))), .val (.ref b2), .val (.int (own_f4 p3 p5 (p1 &&& (8388607 : Int32)))), .val (.int (own_f4 p4 p6 (p2 &&& (16777215 : Int32)))), .val (.int v15_0), .val (.int (own_holds (p1 &&& (8388607 : Int32)) (p2 &&& (16777215 : Int32)) (own_f4 p3 p5 (p1 &&& (8388607 : Int32))) (own_f4 p4 p6 (p2 &&& (16777215 : Int32))))), .unset] [(.ref b2)])) _
    refine XS.iload X17.here hx rfl (hb hby at_87) rfl ?_
    show Steps p.tables e below (T17.setTop (mkF m 89 #[.val (.int p1), .val (.int p2), .val (.int p3), .val (.int p4), .val (.int p5), .val (.int p6), .val (.int (p1 &&& (8388607 : Int32))), .val (.int (p2 &&& (16777215 : Int32))), .val (.ref b2), .val (.int (own_f4 p3 p5 (p1 &&& (8388607 : Int32)))), .val (.int (own_f4 p4 p6 (p2 &&& (16777215 : Int32)))), .val (.int v15_0), .val (.int (own_holds (p1 &&& (8388607 : Int32)) (p2 &&& (16777215 : Int32)) (own_f4 p3 p5 (p1 &&& (8388607 : Int32))) (own_f4 p4 p6 (p2 &&& (16777215 : Int32))))), .unset] [(.int (p1 &&& (8388607 : Int32))), (.ref b2)])) _
    refine XS.iload X17.here hx rfl (hb hby at_89) rfl ?_
    exact kt
  obtain ⟨cq19, kq19, q19a, q19b, q19c⟩ := isOf hZ e17 E_b2_4
  obtain ⟨_, _, ⟨T19, L19, k19, n19⟩, -, X19, ⟨Lc19, hQ19, l19, y19, z19⟩, st19⟩ := X17.virtualBack hx (y := (⟨"com/example/stierlin/stierlin/wire/compression/OutputWindow", "holds", "(II)Z"⟩ : MethodName)) (z := (⟨"com/example/stierlin/stierlin/wire/compression/OutputWindow", "holds", "(II)Z"⟩ : MethodName)) hown (mvT hZ (hw _ (List.mem_of_getElem? (i := 29) rfl))) (mvT hZ (hw _ (List.mem_of_getElem? (i := 30) rfl))) (notFace_of_selects (args := #[]) (mvT hZ (hw _ (List.mem_of_getElem? (i := 32) rfl)))) (mvT hZ (hw _ (List.mem_of_getElem? (i := 32) rfl))) (mvT hZ (hw _ (List.mem_of_getElem? (i := 31) rfl))) (by decide) (backOf (W := 0) (rm5 l Z a0 hw [] b2 (p1 &&& (8388607 : Int32)) (p2 &&& (16777215 : Int32)) (p1 &&& (8388607 : Int32)) (p2 &&& (16777215 : Int32)) T4.heap n0 Z4 F_history_b2_4 F_chunk_b2_4) hZ (hw _ (List.mem_of_getElem? (i := 33) rfl)) (hw _ (List.mem_of_getElem? (i := 4) rfl)) (by decide) (by decide)) q19a q19c (g := (mkF m 91 #[.val (.int p1), .val (.int p2), .val (.int p3), .val (.int p4), .val (.int p5), .val (.int p6), .val (.int (p1 &&& (8388607 : Int32))), .val (.int (p2 &&& (16777215 : Int32))), .val (.ref b2), .val (.int (own_f4 p3 p5 (p1 &&& (8388607 : Int32)))), .val (.int (own_f4 p4 p6 (p2 &&& (16777215 : Int32)))), .val (.int v15_0), .val (.int (own_holds (p1 &&& (8388607 : Int32)) (p2 &&& (16777215 : Int32)) (own_f4 p3 p5 (p1 &&& (8388607 : Int32))) (own_f4 p4 p6 (p2 &&& (16777215 : Int32))))), .unset] [(.int (p2 &&& (16777215 : Int32))), (.int (p1 &&& (8388607 : Int32))), (.ref b2)])) rfl (by rw [hml]; rfl) (Steps.refl _) (argsL := [(.int (p1 &&& (8388607 : Int32))), (.int (p2 &&& (16777215 : Int32)))]) (rest := []) (lenOf pd_3 rfl) rfl (by show 2 * 0 + _ ≤ _; exact Nat.le_of_eq rfl) (hb hby at_91) (fun _ _ => ⟨rfl, e17, (by decide : 2 + 0 ≤ _), (by decide : 65544 + 0 ≤ _)⟩)
  dsimp only [Pt.U, Pt.locs, Pt.cells, Pt.slots] at X19 l19 y19 z19 st19 hQ19
  subst l19 y19 z19
  obtain ⟨rfl, N19q, e19⟩ := hQ19
  have N19 := Fr.app N17 N19q
  have pre19 : ∀ t, Steps p.tables e below (T19.setTop (mkF m 94 #[.val (.int p1), .val (.int p2), .val (.int p3), .val (.int p4), .val (.int p5), .val (.int p6), .val (.int (p1 &&& (8388607 : Int32))), .val (.int (p2 &&& (16777215 : Int32))), .val (.ref b2), .val (.int (own_f4 p3 p5 (p1 &&& (8388607 : Int32)))), .val (.int (own_f4 p4 p6 (p2 &&& (16777215 : Int32)))), .val (.int v15_0), .val (.int (own_holds (p1 &&& (8388607 : Int32)) (p2 &&& (16777215 : Int32)) (own_f4 p3 p5 (p1 &&& (8388607 : Int32))) (own_f4 p4 p6 (p2 &&& (16777215 : Int32))))), .unset] [(.int (own_holds (p1 &&& (8388607 : Int32)) (p2 &&& (16777215 : Int32)) (p1 &&& (8388607 : Int32)) (p2 &&& (16777215 : Int32))))])) t → Steps p.tables e below (s₁.setTop (entryFrame m #[(.int p1), (.int p2), (.int p3), (.int p4), (.int p5), (.int p6)] maxLocals)) t := fun t kt => pre18 t (st19.trans kt)
  have pre20 : ∀ t, Steps p.tables e below (T19.setTop (mkF m 100 #[.val (.int p1), .val (.int p2), .val (.int p3), .val (.int p4), .val (.int p5), .val (.int p6), .val (.int (p1 &&& (8388607 : Int32))), .val (.int (p2 &&& (16777215 : Int32))), .val (.ref b2), .val (.int (own_f4 p3 p5 (p1 &&& (8388607 : Int32)))), .val (.int (own_f4 p4 p6 (p2 &&& (16777215 : Int32)))), .val (.int v15_0), .val (.int (own_holds (p1 &&& (8388607 : Int32)) (p2 &&& (16777215 : Int32)) (own_f4 p3 p5 (p1 &&& (8388607 : Int32))) (own_f4 p4 p6 (p2 &&& (16777215 : Int32))))), .val (.int (own_holds (p1 &&& (8388607 : Int32)) (p2 &&& (16777215 : Int32)) (p1 &&& (8388607 : Int32)) (p2 &&& (16777215 : Int32))))] [(.int v15_0), (.int (own_holds (p1 &&& (8388607 : Int32)) (p2 &&& (16777215 : Int32)) (own_f4 p3 p5 (p1 &&& (8388607 : Int32))) (own_f4 p4 p6 (p2 &&& (16777215 : Int32)))))])) t → Steps p.tables e below (s₁.setTop (entryFrame m #[(.int p1), (.int p2), (.int p3), (.int p4), (.int p5), (.int p6)] maxLocals)) t := by
    intro t kt
    refine pre19 t ?_
    show Steps p.tables e below (T19.setTop (mkF m 94 #[.val (.int p1), .val (.int p2), .val (.int p3), .val (.int p4), .val (.int p5), .val (.int p6), .val (.int (p1 &&& (8388607 : Int32))), .val (.int (p2 &&& (16777215 : Int32))), .val (.ref b2), .val (.int (own_f4 p3 p5 (p1 &&& (8388607 : Int32)))), .val (.int (own_f4 p4 p6 (p2 &&& (16777215 : Int32)))), .val (.int v15_0), .val (.int (own_holds (p1 &&& (8388607 : Int32)) (p2 &&& (16777215 : Int32)) (own_f4 p3 p5 (p1 &&& (8388607 : Int32))) (own_f4 p4 p6 (p2 &&& (16777215 : Int32))))), .unset] [(.int (own_holds (p1 &&& (8388607 : Int32)) (p2 &&& (16777215 : Int32)) (p1 &&& (8388607 : Int32)) (p2 &&& (16777215 : Int32))))])) _
    refine XS.istore X19.here hx rfl (hb hby at_94) rfl (l' := #[.val (.int p1), .val (.int p2), .val (.int p3), .val (.int p4), .val (.int p5), .val (.int p6), .val (.int (p1 &&& (8388607 : Int32))), .val (.int (p2 &&& (16777215 : Int32))), .val (.ref b2), .val (.int (own_f4 p3 p5 (p1 &&& (8388607 : Int32)))), .val (.int (own_f4 p4 p6 (p2 &&& (16777215 : Int32)))), .val (.int v15_0), .val (.int (own_holds (p1 &&& (8388607 : Int32)) (p2 &&& (16777215 : Int32)) (own_f4 p3 p5 (p1 &&& (8388607 : Int32))) (own_f4 p4 p6 (p2 &&& (16777215 : Int32))))), .val (.int (own_holds (p1 &&& (8388607 : Int32)) (p2 &&& (16777215 : Int32)) (p1 &&& (8388607 : Int32)) (p2 &&& (16777215 : Int32))))]) rfl ?_
    show Steps p.tables e below (T19.setTop (mkF m 96 #[.val (.int p1), .val (.int p2), .val (.int p3), .val (.int p4), .val (.int p5), .val (.int p6), .val (.int (p1 &&& (8388607 : Int32))), .val (.int (p2 &&& (16777215 : Int32))), .val (.ref b2), .val (.int (own_f4 p3 p5 (p1 &&& (8388607 : Int32)))), .val (.int (own_f4 p4 p6 (p2 &&& (16777215 : Int32)))), .val (.int v15_0), .val (.int (own_holds (p1 &&& (8388607 : Int32)) (p2 &&& (16777215 : Int32)) (own_f4 p3 p5 (p1 &&& (8388607 : Int32))) (own_f4 p4 p6 (p2 &&& (16777215 : Int32))))), .val (.int (own_holds (p1 &&& (8388607 : Int32)) (p2 &&& (16777215 : Int32)) (p1 &&& (8388607 : Int32)) (p2 &&& (16777215 : Int32))))] [])) _
    refine XS.iload X19.here hx rfl (hb hby at_96) rfl ?_
    show Steps p.tables e below (T19.setTop (mkF m 98 #[.val (.int p1), .val (.int p2), .val (.int p3), .val (.int p4), .val (.int p5), .val (.int p6), .val (.int (p1 &&& (8388607 : Int32))), .val (.int (p2 &&& (16777215 : Int32))), .val (.ref b2), .val (.int (own_f4 p3 p5 (p1 &&& (8388607 : Int32)))), .val (.int (own_f4 p4 p6 (p2 &&& (16777215 : Int32)))), .val (.int v15_0), .val (.int (own_holds (p1 &&& (8388607 : Int32)) (p2 &&& (16777215 : Int32)) (own_f4 p3 p5 (p1 &&& (8388607 : Int32))) (own_f4 p4 p6 (p2 &&& (16777215 : Int32))))), .val (.int (own_holds (p1 &&& (8388607 : Int32)) (p2 &&& (16777215 : Int32)) (p1 &&& (8388607 : Int32)) (p2 &&& (16777215 : Int32))))] [(.int (own_holds (p1 &&& (8388607 : Int32)) (p2 &&& (16777215 : Int32)) (own_f4 p3 p5 (p1 &&& (8388607 : Int32))) (own_f4 p4 p6 (p2 &&& (16777215 : Int32)))))])) _
    refine XS.iload X19.here hx rfl (hb hby at_98) rfl ?_
    exact kt
  obtain ⟨v21_0, hv21_0, pre21⟩ : ∃ (v21_0 : Int32), v21_0 = (if (own_holds (p1 &&& (8388607 : Int32)) (p2 &&& (16777215 : Int32)) (own_f4 p3 p5 (p1 &&& (8388607 : Int32))) (own_f4 p4 p6 (p2 &&& (16777215 : Int32)))) = v15_0 then (if (own_holds (p1 &&& (8388607 : Int32)) (p2 &&& (16777215 : Int32)) (p1 &&& (8388607 : Int32)) (p2 &&& (16777215 : Int32))) = (0 : Int32) then (0 : Int32) else (1 : Int32)) else (0 : Int32)) ∧ ∀ t, Steps p.tables e below (T19.setTop (mkF m 113 #[.val (.int p1), .val (.int p2), .val (.int p3), .val (.int p4), .val (.int p5), .val (.int p6), .val (.int (p1 &&& (8388607 : Int32))), .val (.int (p2 &&& (16777215 : Int32))), .val (.ref b2), .val (.int (own_f4 p3 p5 (p1 &&& (8388607 : Int32)))), .val (.int (own_f4 p4 p6 (p2 &&& (16777215 : Int32)))), .val (.int v15_0), .val (.int (own_holds (p1 &&& (8388607 : Int32)) (p2 &&& (16777215 : Int32)) (own_f4 p3 p5 (p1 &&& (8388607 : Int32))) (own_f4 p4 p6 (p2 &&& (16777215 : Int32))))), .val (.int (own_holds (p1 &&& (8388607 : Int32)) (p2 &&& (16777215 : Int32)) (p1 &&& (8388607 : Int32)) (p2 &&& (16777215 : Int32))))] [(.int v21_0)])) t → Steps p.tables e below (s₁.setTop (entryFrame m #[(.int p1), (.int p2), (.int p3), (.int p4), (.int p5), (.int p6)] maxLocals)) t := by
    refine ⟨_, rfl, ?_⟩
    intro t kt
    refine pre20 t ?_
    show Steps p.tables e below (T19.setTop (mkF m 100 #[.val (.int p1), .val (.int p2), .val (.int p3), .val (.int p4), .val (.int p5), .val (.int p6), .val (.int (p1 &&& (8388607 : Int32))), .val (.int (p2 &&& (16777215 : Int32))), .val (.ref b2), .val (.int (own_f4 p3 p5 (p1 &&& (8388607 : Int32)))), .val (.int (own_f4 p4 p6 (p2 &&& (16777215 : Int32)))), .val (.int v15_0), .val (.int (own_holds (p1 &&& (8388607 : Int32)) (p2 &&& (16777215 : Int32)) (own_f4 p3 p5 (p1 &&& (8388607 : Int32))) (own_f4 p4 p6 (p2 &&& (16777215 : Int32))))), .val (.int (own_holds (p1 &&& (8388607 : Int32)) (p2 &&& (16777215 : Int32)) (p1 &&& (8388607 : Int32)) (p2 &&& (16777215 : Int32))))] [(.int v15_0), (.int (own_holds (p1 &&& (8388607 : Int32)) (p2 &&& (16777215 : Int32)) (own_f4 p3 p5 (p1 &&& (8388607 : Int32))) (own_f4 p4 p6 (p2 &&& (16777215 : Int32)))))])) _
    by_cases hc100 : (own_holds (p1 &&& (8388607 : Int32)) (p2 &&& (16777215 : Int32)) (own_f4 p3 p5 (p1 &&& (8388607 : Int32))) (own_f4 p4 p6 (p2 &&& (16777215 : Int32)))) = v15_0
    · (try simp only [if_pos hc100] at kt)
      refine XS.icmpNo X19.here hx rfl (hb hby at_100) rfl (teq hc100).2 ?_
      show Steps p.tables e below (T19.setTop (mkF m 103 #[.val (.int p1), .val (.int p2), .val (.int p3), .val (.int p4), .val (.int p5), .val (.int p6), .val (.int (p1 &&& (8388607 : Int32))), .val (.int (p2 &&& (16777215 : Int32))), .val (.ref b2), .val (.int (own_f4 p3 p5 (p1 &&& (8388607 : Int32)))), .val (.int (own_f4 p4 p6 (p2 &&& (16777215 : Int32)))), .val (.int v15_0), .val (.int (own_holds (p1 &&& (8388607 : Int32)) (p2 &&& (16777215 : Int32)) (own_f4 p3 p5 (p1 &&& (8388607 : Int32))) (own_f4 p4 p6 (p2 &&& (16777215 : Int32))))), .val (.int (own_holds (p1 &&& (8388607 : Int32)) (p2 &&& (16777215 : Int32)) (p1 &&& (8388607 : Int32)) (p2 &&& (16777215 : Int32))))] [])) _
      refine XS.iload X19.here hx rfl (hb hby at_103) rfl ?_
      show Steps p.tables e below (T19.setTop (mkF m 105 #[.val (.int p1), .val (.int p2), .val (.int p3), .val (.int p4), .val (.int p5), .val (.int p6), .val (.int (p1 &&& (8388607 : Int32))), .val (.int (p2 &&& (16777215 : Int32))), .val (.ref b2), .val (.int (own_f4 p3 p5 (p1 &&& (8388607 : Int32)))), .val (.int (own_f4 p4 p6 (p2 &&& (16777215 : Int32)))), .val (.int v15_0), .val (.int (own_holds (p1 &&& (8388607 : Int32)) (p2 &&& (16777215 : Int32)) (own_f4 p3 p5 (p1 &&& (8388607 : Int32))) (own_f4 p4 p6 (p2 &&& (16777215 : Int32))))), .val (.int (own_holds (p1 &&& (8388607 : Int32)) (p2 &&& (16777215 : Int32)) (p1 &&& (8388607 : Int32)) (p2 &&& (16777215 : Int32))))] [(.int (own_holds (p1 &&& (8388607 : Int32)) (p2 &&& (16777215 : Int32)) (p1 &&& (8388607 : Int32)) (p2 &&& (16777215 : Int32))))])) _
      by_cases hc105 : (own_holds (p1 &&& (8388607 : Int32)) (p2 &&& (16777215 : Int32)) (p1 &&& (8388607 : Int32)) (p2 &&& (16777215 : Int32))) = (0 : Int32)
      · (try simp only [if_pos hc105] at kt)
        refine XS.ifYes X19.here hx rfl (pc0 := 105) (pc' := 112) rfl (hb hby at_105) rfl ((if0 _ _).trans (teq hc105).1) (by decide) (by decide) ?_
        show Steps p.tables e below (T19.setTop (mkF m 112 #[.val (.int p1), .val (.int p2), .val (.int p3), .val (.int p4), .val (.int p5), .val (.int p6), .val (.int (p1 &&& (8388607 : Int32))), .val (.int (p2 &&& (16777215 : Int32))), .val (.ref b2), .val (.int (own_f4 p3 p5 (p1 &&& (8388607 : Int32)))), .val (.int (own_f4 p4 p6 (p2 &&& (16777215 : Int32)))), .val (.int v15_0), .val (.int (own_holds (p1 &&& (8388607 : Int32)) (p2 &&& (16777215 : Int32)) (own_f4 p3 p5 (p1 &&& (8388607 : Int32))) (own_f4 p4 p6 (p2 &&& (16777215 : Int32))))), .val (.int (own_holds (p1 &&& (8388607 : Int32)) (p2 &&& (16777215 : Int32)) (p1 &&& (8388607 : Int32)) (p2 &&& (16777215 : Int32))))] [])) _
        refine XS.iconst X19.here hx rfl (hb hby at_112) ?_
        exact kt
      · (try simp only [if_neg hc105] at kt)
        refine XS.ifNo X19.here hx rfl (hb hby at_105) rfl ((if0 _ _).trans (feq hc105).1) ?_
        show Steps p.tables e below (T19.setTop (mkF m 108 #[.val (.int p1), .val (.int p2), .val (.int p3), .val (.int p4), .val (.int p5), .val (.int p6), .val (.int (p1 &&& (8388607 : Int32))), .val (.int (p2 &&& (16777215 : Int32))), .val (.ref b2), .val (.int (own_f4 p3 p5 (p1 &&& (8388607 : Int32)))), .val (.int (own_f4 p4 p6 (p2 &&& (16777215 : Int32)))), .val (.int v15_0), .val (.int (own_holds (p1 &&& (8388607 : Int32)) (p2 &&& (16777215 : Int32)) (own_f4 p3 p5 (p1 &&& (8388607 : Int32))) (own_f4 p4 p6 (p2 &&& (16777215 : Int32))))), .val (.int (own_holds (p1 &&& (8388607 : Int32)) (p2 &&& (16777215 : Int32)) (p1 &&& (8388607 : Int32)) (p2 &&& (16777215 : Int32))))] [])) _
        refine XS.iconst X19.here hx rfl (hb hby at_108) ?_
        show Steps p.tables e below (T19.setTop (mkF m 109 #[.val (.int p1), .val (.int p2), .val (.int p3), .val (.int p4), .val (.int p5), .val (.int p6), .val (.int (p1 &&& (8388607 : Int32))), .val (.int (p2 &&& (16777215 : Int32))), .val (.ref b2), .val (.int (own_f4 p3 p5 (p1 &&& (8388607 : Int32)))), .val (.int (own_f4 p4 p6 (p2 &&& (16777215 : Int32)))), .val (.int v15_0), .val (.int (own_holds (p1 &&& (8388607 : Int32)) (p2 &&& (16777215 : Int32)) (own_f4 p3 p5 (p1 &&& (8388607 : Int32))) (own_f4 p4 p6 (p2 &&& (16777215 : Int32))))), .val (.int (own_holds (p1 &&& (8388607 : Int32)) (p2 &&& (16777215 : Int32)) (p1 &&& (8388607 : Int32)) (p2 &&& (16777215 : Int32))))] [(.int (1 : Int32))])) _
        refine XS.goto X19.here hx rfl (pc0 := 109) (pc' := 113) rfl (hb hby at_109) (by decide) (by decide) ?_
        exact kt
    · (try simp only [if_neg hc100] at kt)
      refine XS.icmpYes X19.here hx rfl (pc0 := 100) (pc' := 112) rfl (hb hby at_100) rfl (feq hc100).2 (by decide) (by decide) ?_
      show Steps p.tables e below (T19.setTop (mkF m 112 #[.val (.int p1), .val (.int p2), .val (.int p3), .val (.int p4), .val (.int p5), .val (.int p6), .val (.int (p1 &&& (8388607 : Int32))), .val (.int (p2 &&& (16777215 : Int32))), .val (.ref b2), .val (.int (own_f4 p3 p5 (p1 &&& (8388607 : Int32)))), .val (.int (own_f4 p4 p6 (p2 &&& (16777215 : Int32)))), .val (.int v15_0), .val (.int (own_holds (p1 &&& (8388607 : Int32)) (p2 &&& (16777215 : Int32)) (own_f4 p3 p5 (p1 &&& (8388607 : Int32))) (own_f4 p4 p6 (p2 &&& (16777215 : Int32))))), .val (.int (own_holds (p1 &&& (8388607 : Int32)) (p2 &&& (16777215 : Int32)) (p1 &&& (8388607 : Int32)) (p2 &&& (16777215 : Int32))))] [])) _
      refine XS.iconst X19.here hx rfl (hb hby at_112) ?_
      exact kt
  have hfin : v21_0 = 1 := by
    rw [hv21_0, hv15_0]
    unfold own_holds
    simp [Int32.lt_irrefl]
  obtain ⟨fs, hr, hrun, hended, hW, hsame⟩ := X19.leave (v := some (.int (1 : Int32))) (fun h => by rw [Bd.returns] at h; cases h)
  refine ⟨_, _, pre21 _ ?_, hrun, hended, _, _, rfl, ?_, ⟨_, rfl⟩, hW, hsame.mono (by decide) (by decide)⟩
  · show Steps p.tables e below (T19.setTop (mkF m 113 #[.val (.int p1), .val (.int p2), .val (.int p3), .val (.int p4), .val (.int p5), .val (.int p6), .val (.int (p1 &&& (8388607 : Int32))), .val (.int (p2 &&& (16777215 : Int32))), .val (.ref b2), .val (.int (own_f4 p3 p5 (p1 &&& (8388607 : Int32)))), .val (.int (own_f4 p4 p6 (p2 &&& (16777215 : Int32)))), .val (.int v15_0), .val (.int (own_holds (p1 &&& (8388607 : Int32)) (p2 &&& (16777215 : Int32)) (own_f4 p3 p5 (p1 &&& (8388607 : Int32))) (own_f4 p4 p6 (p2 &&& (16777215 : Int32))))), .val (.int (own_holds (p1 &&& (8388607 : Int32)) (p2 &&& (16777215 : Int32)) (p1 &&& (8388607 : Int32)) (p2 &&& (16777215 : Int32))))] [(.int v21_0)])) _
    rw [hfin]
    exact retN X19 hx (t := .boolean) Bd.returns (by simp) (hb hby at_113) hr
  · show Q0 n0 _ T19.heap _
    rw [e19]
    exact ⟨rfl, N19⟩
set_option maxRecDepth 65536 in
set_option maxHeartbeats 40000000 in
theorem comes_1 {Post : Tables → Env → Array Value → State → Outcome → State → Prop} (hpost : ∀ tb e args s v u, (limb_1_1.after args s (.returned v) u = true ∧ limb_1_2.after args s (.returned v) u = true ∧ True) → FrameEnd s (.returned v) u (Jvm.fieldLocs frame_1_writes args s ++ Jvm.arrayLocs frame_1_arrays args s ++ Jvm.staticLocs frame_1_statics s) 16 131200 → Post tb e args s (.returned v) u) :
    ArmFor flags0 classFile x code maxLocals ret World_1 tables_1 room_1 Calls_1 rest_1 Pre_1 Post := by
  intro l hfl _ _ p e ha hc hk s m args below hf hA hF happ hP
  obtain ⟨hcalls, hrest, hpre⟩ := hP
  obtain ⟨-, -, -, hnamed, -, -, -, hat⟩ := (Spec.applies_iff hf).mp happ
  obtain ⟨hg, hn⟩ := and_e (Cond.before_iff.mp (show (Jvm.Cond.and given_1 narrow_1).before args s = true from hpre))
  obtain ⟨g1, g2⟩ := and_e hg
  obtain ⟨g3, g4⟩ := and_e g2
  obtain ⟨g5, g6⟩ := and_e g4
  obtain ⟨g7, g8⟩ := and_e g6
  obtain ⟨g9, g10⟩ := and_e g8
  obtain ⟨g11, g12⟩ := and_e g10
  obtain ⟨w0, w1, w2, w3, w4, w5, rfl⟩ : ∃ w0 w1 w2 w3 w4 w5 : Value, args = #[w0, w1, w2, w3, w4, w5] := by
    have hs : args.size = 6 := by simpa [Cond.value, given_1] using g1
    obtain ⟨L⟩ := args
    match L, hs with
    | [w0, w1, w2, w3, w4, w5], _ => exact ⟨w0, w1, w2, w3, w4, w5, rfl⟩
  have hw := fun d (hd : d ∈ tables_1) => atoms_spec (ws := Jvm.Cond.code x code maxLocals ret :: tables_1) hat d (List.mem_cons_of_mem _ hd)
  have hfit : Fit s := fun {y c} hc i hi => by
    obtain ⟨ha, rfl⟩ := Array.getElem?_eq_some_iff.mp hc
    have q := List.all_eq_true.mp ((Array.all_eq_true_iff_forall_mem.mp hF) _ (Array.getElem_mem ha)) i (List.mem_range.mpr hi)
    simpa [Array.getElem?_eq_getElem hi] using q
  obtain ⟨i0, ei0⟩ := is_v g3
  obtain rfl : w0 = (.int i0) := Option.some.inj ei0
  obtain ⟨i1, ei1⟩ := is_v g5
  obtain rfl : w1 = (.int i1) := Option.some.inj ei1
  obtain ⟨i2, ei2⟩ := is_v g7
  obtain rfl : w2 = (.int i2) := Option.some.inj ei2
  obtain ⟨i3, ei3⟩ := is_v g9
  obtain rfl : w3 = (.int i3) := Option.some.inj ei3
  obtain ⟨i4, ei4⟩ := is_v g11
  obtain rfl : w4 = (.int i4) := Option.some.inj ei4
  obtain ⟨i5, ei5⟩ := is_v g12
  obtain rfl : w5 = (.int i5) := Option.some.inj ei5
  obtain ⟨n, o, h1, h2, h3, _, L, rfl, ⟨rfl, N⟩, hq⟩ := rm0 l s _ hw tables_1 i0 i1 i2 i3 i4 i5  s.heap s.heap.size (Nat.le_refl _)  p e ha hc hk s m _ below hf ((Spec.applies_iff_loose hf).mp happ).1 ⟨rfl, State.Warmed39.refl s, rfl⟩ trivial
  refine ⟨n, _, h1, h2, h3, hpost _ _ _ _ _ _ ⟨Cond.after_iff.mpr rfl, Cond.after_iff.mpr (eq_i res_at (Term.int_eval (1)) rfl), trivial⟩ ⟨hq.1, hq.2.1, (hq.2.2.sift fun y hy => Or.inr (N y hy)).mono (by decide) (by decide)⟩⟩
theorem main_1_1 : Claimed_1_1 := comes_1 fun _ _ _ _ _ _ h hF => ⟨h.1, hF⟩
theorem main_1_2 : Claimed_1_2 := comes_1 fun _ _ _ _ _ _ h hF => ⟨h.2.1, hF⟩
end Jvm.Pilot.@@N@@
namespace Jvm.Pilot.@@N@@
open Jvm Jvm.ClassFile Sem Op Lib Jvm.Free Jvm.Stand Jvm.Pilot.@@N@@.Jvm.D
/-! MADE BY PROGRAM (witnessworld.py) out of the Statement's table words and the real class files: 10 classes; the members and pool entries that the words name. The judged class is class 1, her method 2. -/
namespace start1
open Jvm.ClassFile
def u (s : String) : CpInfo := .utf8 (stringToUtf16 s)
/-- a pool by its gaps: so many unusable entries, then the entry; so many at the end -/
def gap : Nat → List CpInfo → List CpInfo
  | 0, r => r
  | n + 1, r => .unusable :: gap n r
def poolList (es : List (Nat × CpInfo)) (last : Nat) : List CpInfo := es.foldr (fun e r => gap e.1 (e.2 :: r)) (gap last [])
def pool (es : List (Nat × CpInfo)) (last : Nat) : Array CpInfo := ⟨poolList es last⟩
def fileOf (pool : Array CpInfo) (this : Nat) (attrs : Array Attribute := #[]) (ms : Array MethodInfo := #[]) (fl : Nat := 33) (sup : Nat := 0) (ifs : Array Nat := #[]) (fds : Array FieldInfo := #[]) : ClassFile where
  minorVersion := 0
  majorVersion := 65
  constantPool := pool
  accessFlags := fl
  thisClass := this
  superClass := sup
  interfaces := ifs
  fields := fds
  methods := ms
  attributes := attrs
def plain (name : String) (sup : Option ClassId) : Class where
  name := name
  kind := .ordinary
  loader := none
  accessFlags := 33
  super := sup
  interfaces := #[]
  cf := none
  fields := #[]
  methods := #[]
  instanceTypes := #[]
  staticTypes := #[]
  resolved := #[]
  callSites := []
  init := .initialized
  statics := none
  mirror := none

def pool0 : Array CpInfo := pool [(5, u "<init>"), (0, u "()V"), (1, .class_ 10), (1, u "java/lang/Object")] 113

def k0c0 : Code := { maxStack := 0, maxLocals := 1, code := object_method_1_code, exceptionTable := #[], attributes := #[] }
def k0m0 : Method := { name := "<init>", desc := "()V", sig := { parameters := [], returnType := none }, accessFlags := 1, code := some k0c0 }
/-- java/lang/Object -/
def k0 : Class := { plain "java/lang/Object" none with
  accessFlags := 33
  interfaces := #[]
  cf := some (fileOf pool0 8 #[] #[{ accessFlags := 1, nameIndex := 5, descriptorIndex := 6, attributes := #[] }] 33 0 #[] #[])
  fields := #[]
  methods := #[k0m0]
  instanceTypes := #[]
  staticTypes := #[]
  resolved := Array.replicate 124 none
  statics := none }

def pool1 : Array CpInfo := pool [(2, .class_ 4), (1, u "java/lang/Object"), (0, u "<init>"), (0, u "()V"), (0, .integer 8388607), (0, .integer 16777215), (0, .class_ 10), (0, u "com/example/stierlin/stierlin/wire/compression/OutputWindow"), (0, .methodref 9 12), (0, .nameAndType 5 13), (0, u "(II)V"), (0, .methodref 15 16), (0, .class_ 17), (0, .nameAndType 18 19), (0, u "com/example/stierlin/stierlin/wire/compression/OutputWindowHoldsPinLaw"), (0, u "pick"), (0, u "(III)I"), (0, .methodref 9 21), (0, .nameAndType 22 23), (0, u "holds"), (0, u "(II)Z"), (3, u "law"), (0, u "(IIIIII)Z")] 2

def k1m0 : Method := { name := "<init>", desc := "()V", sig := { parameters := [], returnType := none }, accessFlags := 2, code := none }
def k1c1 : Code := { maxStack := 3, maxLocals := 3, code := method_2_code, exceptionTable := #[], attributes := #[] }
def k1m1 : Method := { name := "pick", desc := "(III)I", sig := { parameters := [.int, .int, .int], returnType := some .int }, accessFlags := 10, code := some k1c1 }
def k1c2 : Code := { maxStack := 4, maxLocals := 14, code := code, exceptionTable := #[], attributes := #[] }
def k1m2 : Method := { name := "law", desc := "(IIIIII)Z", sig := { parameters := [.int, .int, .int, .int, .int, .int], returnType := some .boolean }, accessFlags := 9, code := some k1c2 }
/-- com/example/stierlin/stierlin/wire/compression/OutputWindowHoldsPinLaw -/
def k1 : Class := { plain "com/example/stierlin/stierlin/wire/compression/OutputWindowHoldsPinLaw" (some 0) with
  accessFlags := 49
  interfaces := #[]
  cf := some (fileOf pool1 15 #[] #[{ accessFlags := 2, nameIndex := 5, descriptorIndex := 6, attributes := #[] }, { accessFlags := 10, nameIndex := 18, descriptorIndex := 19, attributes := #[] }, { accessFlags := 9, nameIndex := 27, descriptorIndex := 28, attributes := #[] }] 49 2 #[] #[])
  fields := #[]
  methods := #[k1m0, k1m1, k1m2]
  instanceTypes := #[]
  staticTypes := #[]
  resolved := Array.replicate 31 none
  statics := none }

def pool2 : Array CpInfo := pool [(1, .methodref 2 3), (0, .class_ 4), (0, .nameAndType 5 6), (0, u "java/lang/Object"), (0, u "<init>"), (0, u "()V"), (0, .fieldref 8 9), (0, .class_ 10), (0, .nameAndType 11 12), (0, u "com/example/stierlin/stierlin/wire/compression/OutputWindow"), (0, u "history"), (0, u "I"), (0, .fieldref 8 14), (0, .nameAndType 15 12), (0, u "chunk"), (0, .fieldref 8 17), (0, .nameAndType 18 12), (0, u "fullCapacity"), (0, .integer 65536), (0, .methodref 21 22), (0, .class_ 23), (0, .nameAndType 24 25), (0, u "java/lang/Math"), (0, u "min"), (0, u "(II)I"), (0, .fieldref 8 27), (0, .nameAndType 28 29), (0, u "ring"), (0, u "[B"), (2, u "unread"), (11, u "writeIndex"), (2, u "readIndex"), (2, u "written"), (0, u "J"), (54, u "HISTORY_LIMIT"), (2, u "FIRST_CAPACITY"), (0, u "(II)V"), (2, u "holds"), (0, u "(II)Z")] 36

def k2c0 : Code := { maxStack := 3, maxLocals := 3, code := prog_181_method_1_code, exceptionTable := #[], attributes := #[] }
def k2m0 : Method := { name := "<init>", desc := "(II)V", sig := { parameters := [.int, .int], returnType := none }, accessFlags := 0, code := some k2c0 }
def k2c1 : Code := { maxStack := 2, maxLocals := 3, code := prog_181_method_2_code, exceptionTable := #[], attributes := #[] }
def k2m1 : Method := { name := "holds", desc := "(II)Z", sig := { parameters := [.int, .int], returnType := some .boolean }, accessFlags := 0, code := some k2c1 }
/-- com/example/stierlin/stierlin/wire/compression/OutputWindow -/
def k2 : Class := { plain "com/example/stierlin/stierlin/wire/compression/OutputWindow" (some 0) with
  accessFlags := 48
  interfaces := #[]
  cf := some (fileOf pool2 8 #[] #[{ accessFlags := 0, nameIndex := 5, descriptorIndex := 110, attributes := #[] }, { accessFlags := 0, nameIndex := 113, descriptorIndex := 114, attributes := #[] }] 48 2 #[] #[{ accessFlags := 24, nameIndex := 106, descriptorIndex := 12, attributes := #[] }, { accessFlags := 26, nameIndex := 109, descriptorIndex := 12, attributes := #[] }, { accessFlags := 18, nameIndex := 11, descriptorIndex := 12, attributes := #[] }, { accessFlags := 18, nameIndex := 15, descriptorIndex := 12, attributes := #[] }, { accessFlags := 18, nameIndex := 18, descriptorIndex := 12, attributes := #[] }, { accessFlags := 2, nameIndex := 28, descriptorIndex := 29, attributes := #[] }, { accessFlags := 2, nameIndex := 44, descriptorIndex := 12, attributes := #[] }, { accessFlags := 2, nameIndex := 47, descriptorIndex := 12, attributes := #[] }, { accessFlags := 2, nameIndex := 32, descriptorIndex := 12, attributes := #[] }, { accessFlags := 2, nameIndex := 50, descriptorIndex := 51, attributes := #[] }])
  fields := #[{ name := "HISTORY_LIMIT", type := .int, accessFlags := 24, slot := 0, constantValue := 0 }, { name := "FIRST_CAPACITY", type := .int, accessFlags := 26, slot := 1, constantValue := 0 }, { name := "history", type := .int, accessFlags := 18, slot := 0, constantValue := 0 }, { name := "chunk", type := .int, accessFlags := 18, slot := 1, constantValue := 0 }, { name := "fullCapacity", type := .int, accessFlags := 18, slot := 2, constantValue := 0 }, { name := "ring", type := (.array .byte), accessFlags := 2, slot := 3, constantValue := 0 }, { name := "writeIndex", type := .int, accessFlags := 2, slot := 4, constantValue := 0 }, { name := "readIndex", type := .int, accessFlags := 2, slot := 5, constantValue := 0 }, { name := "unread", type := .int, accessFlags := 2, slot := 6, constantValue := 0 }, { name := "written", type := .long, accessFlags := 2, slot := 7, constantValue := 0 }]
  methods := #[k2m0, k2m1]
  instanceTypes := #[.int, .int, .int, (.array .byte), .int, .int, .int, .long]
  staticTypes := #[.int, .int]
  resolved := Array.replicate 151 none
  statics := none }

def pool3 : Array CpInfo := pool [(1, .class_ 2), (0, u "java/lang/Math"), (1, .class_ 6), (1, u "java/lang/Object"), (0, u "<init>"), (0, u "()V"), (89, .class_ 100), (1, u "java/lang/Math$RandomNumberGeneratorHolder"), (71, u "negativeZeroFloatBits"), (0, u "J"), (2, u "negativeZeroDoubleBits"), (24, u "min"), (43, u "$assertionsDisabled"), (0, u "Z"), (88, u "(II)I"), (2, u "twoToTheDoubleScaleDown"), (0, u "D"), (4, u "twoToTheDoubleScaleUp"), (9, u "E"), (3, u "PI"), (2, u "TAU"), (2, u "DEGREES_TO_RADIANS"), (0, u "RADIANS_TO_DEGREES")] 94

def k3m0 : Method := { name := "<init>", desc := "()V", sig := { parameters := [], returnType := none }, accessFlags := 2, code := none }
def k3c1 : Code := { maxStack := 2, maxLocals := 2, code := jdk_29_method_69_code, exceptionTable := #[], attributes := #[] }
def k3m1 : Method := { name := "min", desc := "(II)I", sig := { parameters := [.int, .int], returnType := some .int }, accessFlags := 9, code := some k3c1 }
/-- java/lang/Math -/
def k3 : Class := { plain "java/lang/Math" (some 0) with
  accessFlags := 49
  interfaces := #[]
  cf := some (fileOf pool3 1 #[.nestMembers #[98]] #[{ accessFlags := 2, nameIndex := 7, descriptorIndex := 8, attributes := #[] }, { accessFlags := 9, nameIndex := 201, descriptorIndex := 335, attributes := #[] }] 49 4 #[] #[{ accessFlags := 25, nameIndex := 354, descriptorIndex := 339, attributes := #[] }, { accessFlags := 25, nameIndex := 358, descriptorIndex := 339, attributes := #[] }, { accessFlags := 25, nameIndex := 361, descriptorIndex := 339, attributes := #[] }, { accessFlags := 26, nameIndex := 364, descriptorIndex := 339, attributes := #[] }, { accessFlags := 26, nameIndex := 365, descriptorIndex := 339, attributes := #[] }, { accessFlags := 26, nameIndex := 172, descriptorIndex := 173, attributes := #[] }, { accessFlags := 26, nameIndex := 176, descriptorIndex := 173, attributes := #[] }, { accessFlags := 8, nameIndex := 344, descriptorIndex := 339, attributes := #[] }, { accessFlags := 8, nameIndex := 338, descriptorIndex := 339, attributes := #[] }, { accessFlags := 4120, nameIndex := 245, descriptorIndex := 246, attributes := #[] }])
  fields := #[{ name := "E", type := .double, accessFlags := 25, slot := 0, constantValue := 0 }, { name := "PI", type := .double, accessFlags := 25, slot := 1, constantValue := 0 }, { name := "TAU", type := .double, accessFlags := 25, slot := 2, constantValue := 0 }, { name := "DEGREES_TO_RADIANS", type := .double, accessFlags := 26, slot := 3, constantValue := 0 }, { name := "RADIANS_TO_DEGREES", type := .double, accessFlags := 26, slot := 4, constantValue := 0 }, { name := "negativeZeroFloatBits", type := .long, accessFlags := 26, slot := 5, constantValue := 0 }, { name := "negativeZeroDoubleBits", type := .long, accessFlags := 26, slot := 6, constantValue := 0 }, { name := "twoToTheDoubleScaleUp", type := .double, accessFlags := 8, slot := 7, constantValue := 0 }, { name := "twoToTheDoubleScaleDown", type := .double, accessFlags := 8, slot := 8, constantValue := 0 }, { name := "$assertionsDisabled", type := .boolean, accessFlags := 4120, slot := 9, constantValue := 0 }]
  methods := #[k3m0, k3m1]
  instanceTypes := #[]
  staticTypes := #[.double, .double, .double, .double, .double, .long, .long, .double, .double, .boolean]
  resolved := Array.replicate 460 none
  statics := none }

def pool4 : Array CpInfo := pool [(1, u "java/lang/Cloneable"), (0, .class_ 1), (0, u "java/lang/Object"), (0, .class_ 3)] 3

/-- java/lang/Cloneable -/
def k4 : Class := { plain "java/lang/Cloneable" (some 0) with
  accessFlags := 1537
  interfaces := #[]
  cf := some (fileOf pool4 2 #[] #[] 1537 4 #[] #[])
  fields := #[]
  methods := #[]
  instanceTypes := #[]
  staticTypes := #[]
  resolved := Array.replicate 8 none
  statics := none }

def pool5 : Array CpInfo := pool [(1, u "java/io/Serializable"), (0, .class_ 1), (0, u "java/lang/Object"), (0, .class_ 3)] 3

/-- java/io/Serializable -/
def k5 : Class := { plain "java/io/Serializable" (some 0) with
  accessFlags := 1537
  interfaces := #[]
  cf := some (fileOf pool5 2 #[] #[] 1537 4 #[] #[])
  fields := #[]
  methods := #[]
  instanceTypes := #[]
  staticTypes := #[]
  resolved := Array.replicate 8 none
  statics := none }

/-- the primitive byte -/
def k6 : Class := { plain "byte" none with kind := .primitive 'B', accessFlags := 0x411 }
/-- [B -/
def k7 : Class := { plain "[B" (some 0) with kind := .array 6 .byte, interfaces := #[4, 5], accessFlags := 1041 }

/-- the primitive int -/
def k8 : Class := { plain "int" none with kind := .primitive 'I', accessFlags := 0x411 }
/-- [I -/
def k9 : Class := { plain "[I" (some 0) with kind := .array 8 .int, interfaces := #[4, 5], accessFlags := 1041 }

def heap : Heap := #[]
def classes : Array Class := #[k0, k1, k2, k3, k4, k5, k6, k7, k8, k9]
def interned : List (Array UInt16 × Addr) := []
def slotsUsed : Nat := 0
def theMethod : MethodId := ⟨1, 2⟩
def args0 : Array Value := #[.int 5, .int 6, .int 7, .int 8, .int 9, .int 10]
def aboutOver (below : List Frame) : State where
  vm := { classes := classes, interned := interned.toArray }
  heap := heap
  slotsUsed := slotsUsed
  threads := #[{ frames := .invoking theMethod args0 :: below }]
def below0 : List Frame := [.native { method := ⟨0, 0⟩, args := #[] }]
def about1 : State := aboutOver below0
def p0 : Program := .bare "" "" ""
def e0 : Env := launch0.env 0 0 0
theorem w_frames : about1.frames = Frame.invoking theMethod args0 :: below0 := rfl
set_option maxRecDepth 65536 in
theorem w_args : argsFit about1.vm theMethod args0 = true := by decide +kernel
set_option maxRecDepth 65536 in
theorem w_heap : heapFits about1 = true := by decide +kernel
set_option maxRecDepth 65536 in
theorem w_runnable : about1.curStatus? = some .runnable := by decide +kernel
set_option maxRecDepth 65536 in
theorem w_alone : about1.alone = true := by decide +kernel
set_option maxRecDepth 65536 in
theorem w_named : about1.methodNamed? x = some theMethod := by decide +kernel
set_option maxRecDepth 65536 in
theorem w_hears : about1.hears theMethod below0 = true := by decide +kernel
set_option maxRecDepth 65536 in
theorem w_ripe : about1.ripe theMethod args0 below0 = true := by decide +kernel
theorem w_running : about1.status = .running := rfl
set_option maxRecDepth 65536 in
theorem w_room : about1.hasRoom e0.platform room_1 = true :=
  launch0.hasRoom_least _ room_1 (by decide +kernel) (by decide +kernel) (by decide +kernel) (by decide +kernel) (by decide +kernel) (by decide +kernel)
theorem allAtoms_all (ts : List Jvm.Cond) (a : Array Jvm.Value) (st : Jvm.State) : (allAtoms ts).before a st = ts.all (fun c => c.before a st) := by
  induction ts with
  | nil => rfl
  | cons c t ih =>
    show (Jvm.Cond.and c (allAtoms t)).before a st = _
    rw [Jvm.Cond.before_and, ih, List.all_cons]
def words1 : List Jvm.Cond := Jvm.Cond.code x code maxLocals ret :: tables_1
/-- a 'code' word, met by the world's own term for the bytes: nothing is compared byte by byte -/
theorem code_word {y : MethodName} {bytes : ByteArray} {mx : Nat} {rt : Option FieldType} {a : Array Value} {s : State} {m : MethodId} {meth : Method} {c : Code} (h1 : s.methodNamed? y = some m) (h2 : s.vm.method? m = some meth) (h3 : meth.code = some c) (h4 : c.code = bytes)
    (h5 : (c.maxLocals == mx && c.exceptionTable.isEmpty && decide (c.maxStack ≤ mostOperands) && decide (meth.sig.returnType = rt) && !meth.locks && decide (parseMethodDescriptor y.desc = some meth.sig)) = true) : (Jvm.Cond.code y bytes mx rt).before a s = true := by
  simp only [Bool.and_eq_true, beq_iff_eq, Bool.not_eq_true', decide_eq_true_eq] at h5
  obtain ⟨⟨⟨⟨⟨g1, g2⟩, g3⟩, g4⟩, g5⟩, g6⟩ := h5
  simp [Cond.before, Cond.holds, Cond.value, h1, h2, h3, h4, g1, g2, g3, g4, g5, g6]
def isCode : Jvm.Cond → Bool
  | .code _ _ _ _ => true
  | _ => false
theorem all_split {L : List Jvm.Cond} {P : Jvm.Cond → Bool} (h1 : L.all (fun c => isCode c || P c) = true) (h2 : ∀ c ∈ L.filter isCode, P c = true) : L.all P = true := by
  refine List.all_eq_true.mpr fun c hc => ?_
  have h := List.all_eq_true.mp h1 c hc
  rcases Bool.eq_false_or_eq_true (isCode c) with hi | hi
  · exact h2 c (List.mem_filter.mpr ⟨hc, hi⟩)
  · simpa [hi] using h
set_option maxRecDepth 65536 in
theorem w_c0 : (Jvm.Cond.code x code maxLocals ret).before args0 about1 = true := code_word (m := ⟨1, 2⟩) (meth := k1m2) (c := k1c2) (by decide +kernel) rfl rfl rfl (by decide +kernel)
set_option maxRecDepth 65536 in
theorem w_c1 : (Jvm.Cond.code ({ cls := "com/example/stierlin/stierlin/wire/compression/OutputWindow", name := "<init>", desc := "(II)V" } : Jvm.MethodName) prog_181_method_1_code (3 : Nat) (Option.none : Option Jvm.ClassFile.FieldType)).before args0 about1 = true := code_word (m := ⟨2, 0⟩) (meth := k2m0) (c := k2c0) (by decide +kernel) rfl rfl rfl (by decide +kernel)
set_option maxRecDepth 65536 in
theorem w_c2 : (Jvm.Cond.code ({ cls := "java/lang/Object", name := "<init>", desc := "()V" } : Jvm.MethodName) object_method_1_code (1 : Nat) (Option.none : Option Jvm.ClassFile.FieldType)).before args0 about1 = true := code_word (m := ⟨0, 0⟩) (meth := k0m0) (c := k0c0) (by decide +kernel) rfl rfl rfl (by decide +kernel)
set_option maxRecDepth 65536 in
theorem w_c3 : (Jvm.Cond.code ({ cls := "java/lang/Math", name := "min", desc := "(II)I" } : Jvm.MethodName) jdk_29_method_69_code (2 : Nat) (Option.some Jvm.ClassFile.FieldType.int)).before args0 about1 = true := code_word (m := ⟨3, 1⟩) (meth := k3m1) (c := k3c1) (by decide +kernel) rfl rfl rfl (by decide +kernel)
set_option maxRecDepth 65536 in
theorem w_c4 : (Jvm.Cond.code ({ cls := "com/example/stierlin/stierlin/wire/compression/OutputWindowHoldsPinLaw", name := "pick", desc := "(III)I" } : Jvm.MethodName) method_2_code (3 : Nat) (Option.some Jvm.ClassFile.FieldType.int)).before args0 about1 = true := code_word (m := ⟨1, 1⟩) (meth := k1m1) (c := k1c1) (by decide +kernel) rfl rfl rfl (by decide +kernel)
set_option maxRecDepth 65536 in
theorem w_c5 : (Jvm.Cond.code ({ cls := "com/example/stierlin/stierlin/wire/compression/OutputWindow", name := "holds", desc := "(II)Z" } : Jvm.MethodName) prog_181_method_2_code (3 : Nat) (Option.some Jvm.ClassFile.FieldType.boolean)).before args0 about1 = true := code_word (m := ⟨2, 1⟩) (meth := k2m1) (c := k2c1) (by decide +kernel) rfl rfl rfl (by decide +kernel)
def codes1 : List Jvm.Cond := [Jvm.Cond.code x code maxLocals ret, Jvm.Cond.code ({ cls := "com/example/stierlin/stierlin/wire/compression/OutputWindow", name := "<init>", desc := "(II)V" } : Jvm.MethodName) prog_181_method_1_code (3 : Nat) (Option.none : Option Jvm.ClassFile.FieldType), Jvm.Cond.code ({ cls := "java/lang/Object", name := "<init>", desc := "()V" } : Jvm.MethodName) object_method_1_code (1 : Nat) (Option.none : Option Jvm.ClassFile.FieldType), Jvm.Cond.code ({ cls := "java/lang/Math", name := "min", desc := "(II)I" } : Jvm.MethodName) jdk_29_method_69_code (2 : Nat) (Option.some Jvm.ClassFile.FieldType.int), Jvm.Cond.code ({ cls := "com/example/stierlin/stierlin/wire/compression/OutputWindowHoldsPinLaw", name := "pick", desc := "(III)I" } : Jvm.MethodName) method_2_code (3 : Nat) (Option.some Jvm.ClassFile.FieldType.int), Jvm.Cond.code ({ cls := "com/example/stierlin/stierlin/wire/compression/OutputWindow", name := "holds", desc := "(II)Z" } : Jvm.MethodName) prog_181_method_2_code (3 : Nat) (Option.some Jvm.ClassFile.FieldType.boolean)]
set_option maxRecDepth 65536 in
theorem codes_eq : words1.filter isCode = codes1 := rfl
theorem w_codes : ∀ c ∈ words1.filter isCode, c.before args0 about1 = true := by
  rw [codes_eq]
  intro c hc
  simp only [codes1, List.mem_cons, List.not_mem_nil, or_false] at hc
  rcases hc with rfl | rfl | rfl | rfl | rfl | rfl
  · exact w_c0
  · exact w_c1
  · exact w_c2
  · exact w_c3
  · exact w_c4
  · exact w_c5
set_option maxRecDepth 65536 in
theorem w_t1 : (words1.take 24).all (fun c => isCode c || c.before args0 about1) = true := by decide +kernel
set_option maxRecDepth 65536 in
theorem w_t2 : (words1.drop 24).all (fun c => isCode c || c.before args0 about1) = true := by decide +kernel
theorem w_tables : (allAtoms (Jvm.Cond.code x code maxLocals ret :: tables_1)).before args0 about1 = true := by
  rw [allAtoms_all]
  show words1.all (fun c => c.before args0 about1) = true
  refine all_split ?_ w_codes
  rw [← List.take_append_drop 24 words1, List.all_append, w_t1, w_t2]
  rfl
set_option maxRecDepth 65536 in
theorem w_case : (Jvm.Cond.and given_1 narrow_1).before args0 about1 = true := by decide +kernel
theorem w_applies : (headSpec (Jvm.Cond.code x code maxLocals ret :: tables_1) room_1).applies x e0.platform about1 = true :=
  (Spec.applies_iff w_frames).mpr ⟨w_running, w_runnable, w_alone, w_named, w_hears, w_ripe, w_room, w_tables⟩
theorem atStart : AtStart classFile x code maxLocals ret World_1 tables_1 room_1 Calls_1 rest_1 Pre_1 launch0 p0 e0 about1 theMethod args0 below0 :=
  ⟨lists_1, trivial, launch0.admits_env _ _ _, launch0.least_env, fairChoices_fair.cas, fairChoices_fair.clock, w_frames, w_args, w_heap, w_applies, trivial, trivial, w_case⟩
end start1
theorem witness_1 : WitnessClaimed_1 := ⟨start1.p0, start1.e0, start1.about1, start1.theMethod, start1.args0, start1.below0, start1.atStart⟩
end Jvm.Pilot.@@N@@
