import JvmDerived
import JvmDerived.Pilot.@@N@@Statement
import JvmDerived.Pilot.@@N@@Code
set_option linter.unusedVariables false
set_option linter.unusedSimpArgs false
@@BLOCK:NumsL.lean.txt@@
namespace Jvm.RoadKit
open Sem ClassFile Op Lib Jvm.Stand Jvm.Free Jvm.LawKit
section New
variable {p : Program} {l : Launch} {e : Env} {R : Room} {s : State} {m : MethodId} {args : Array Value} {below : List Frame} {meth : Method} {c : Code} {T : State} {locs : List Loc} {cells slots : Nat}
theorem retI (X : Stand p l e R s m args below meth c T locs cells slots) (hx : p.tables.exec = Jvm.exec) {pc : Nat} {Ls : Array Slot} {z : Int32} {rest : List Value} (hret : meth.sig.returnType = some .int) (hd : decode c.code pc = .ok (.ireturn, 1)) {fs : List Frame}
    (hl : ∀ (f : JFrame) (acts : List Action), f.method = m → f.locked = none → f.entered = [] → (doReturn e (T.setTop f) acts (some (.int z))).1 = T.setFrames fs) : Steps p.tables e below (T.setTop (mkF m pc Ls (.int z :: rest))) (T.setFrames fs) := by
  have hm' : T.vm.method? m = some meth := X.method'
  have hn : narrow .int (.int z) = .int z := rfl
  show Steps p.tables e below (T.setTop { method := m, pc := pc, locals := Ls, stack := _ :: rest, locked := none }) _
  jvm_step X.here [X.here.top, hx, hd, hm', hret, hn]
  first | (intro acts; rw [hl _ acts rfl rfl rfl]) | rw [hl _ _ rfl rfl rfl]
  exact Steps.refl _
end New
end Jvm.RoadKit
namespace Jvm.Pilot.@@N@@
open Jvm Jvm.ClassFile Sem Op Lib Jvm.Free Jvm.Stand Jvm.LawKit Jvm.RoadKit Bundle Jvm.Pilot.@@N@@.Jvm.D
theorem pn_0 : plainName "com/example/cormorant/cormorant/job/CallHosts" = true := by first | (simp [plainName, overriddenIn]; done) | decide +kernel
theorem pn_1 : plainName "com/example/cormorant/cormorant/job/CallHostsIsPortPinLaw" = true := by first | (simp [plainName, overriddenIn]; done) | decide +kernel
theorem pd_0 : parseMethodDescriptor "(II)I" = some ⟨[.int, .int], some .int⟩ := by decide +kernel
theorem pd_1 : parseMethodDescriptor "(I)Z" = some ⟨[.int], some .boolean⟩ := by decide +kernel
theorem d1_0 : decode jdk_29_method_69_code 0 = .ok (.iload_n 0, 1) := by decide +kernel
theorem d1_1 : decode jdk_29_method_69_code 1 = .ok (.iload_n 1, 1) := by decide +kernel
theorem d1_2 : decode jdk_29_method_69_code 2 = .ok (.if_icmp .gt 7, 3) := by decide +kernel
theorem d1_5 : decode jdk_29_method_69_code 5 = .ok (.iload_n 0, 1) := by decide +kernel
theorem d1_6 : decode jdk_29_method_69_code 6 = .ok (.goto 4, 3) := by decide +kernel
theorem d1_9 : decode jdk_29_method_69_code 9 = .ok (.iload_n 1, 1) := by decide +kernel
theorem d1_10 : decode jdk_29_method_69_code 10 = .ok (.ireturn, 1) := by decide +kernel
def own_f1 (p1 : Int32) (p2 : Int32) : Int32 := (if p2 < p1 then p2 else p1)
def Q1 (p1 : Int32) (p2 : Int32) (h0 : Heap) (n0 : Nat) (v : Option Value) (h : Heap) (L : List Loc) : Prop := v = some (.int (own_f1 p1 p2)) ∧ Fr n0 L ∧ h = h0
theorem ef_1 (m : MethodId) (x0 : Int32) (x1 : Int32) : entryFrame m #[(.int x0), (.int x1)] 2 = mkF m 0 #[.val (.int x0), .val (.int x1)] [] := by first | (simp [entryFrame, mkF, argsToLocals, Value.category]; done) | rfl
set_option maxRecDepth 65536 in
set_option maxHeartbeats 40000000 in
theorem rm1 (l : Launch) (Z : State) (a0 : Array Value) (hw : ∀ d ∈ tables_1, d.before a0 Z = true) (ws : List Jvm.Cond) (p1 : Int32) (p2 : Int32) (h0 : Heap) (n0 : Nat) :
    MetFree l (⟨"java/lang/Math", "min", "(II)I"⟩ : MethodName) (head1 (Jvm.Cond.code (⟨"java/lang/Math", "min", "(II)I"⟩ : MethodName) jdk_29_method_69_code 2 (some .int) :: ws) ({ frames := 0, cells := 0, slots := 0, locals := 0 } : Room)) (fun a U => a = #[(.int p1), (.int p2)] ∧ Z.Warmed39 U.vm ∧ U.heap = h0) (fun _ _ _ _ _ => True) (fun _ U o U' => ∃ v L, o = .returned v ∧ Q1 p1 p2 h0 n0 v U'.heap L ∧ FrameEnd U o U' L ({ frames := 0, cells := 0, slots := 0, locals := 0 } : Room).cells ({ frames := 0, cells := 0, slots := 0, locals := 0 } : Room).slots) := by
  refine MetFree.of_bodySF (Jvm.Free.JP.mathPlain rfl (by decide +kernel)) hisR ?_
  intro p e s m args below meth c s₁ Bd hml0 hP hK
  obtain ⟨rfl, hZ, hh⟩ := hP
  have hx := Bd.exec
  have hby := Bd.bytes
  have hml : c.maxLocals = 2 := hml0
  have hown : s.vm.findClass "java/lang/Math" = some m.cls := findClass_of_methodNamed Bd.named
  have hnm := (name_of_methodNamed Bd.named Bd.method).1
  have X0 : Stand p l e ({ frames := 0, cells := 0, slots := 0, locals := 0 } : Room) s m #[(.int p1), (.int p2)] below meth c s₁ [] 0 0 := Stand.of_body Bd
  have e0 : s₁.heap = h0 := by rw [← hh, Bd.state]; rfl
  have N0 := Fr.nil n0
  have pre0 : ∀ t, Steps p.tables e below (s₁.setTop (mkF m 0 #[.val (.int p1), .val (.int p2)] [])) t → Steps p.tables e below (s₁.setTop (entryFrame m #[(.int p1), (.int p2)] 2)) t := fun t k => castTop (ef_1 m p1 p2) k
  obtain ⟨fs, hr, hrun, hended, hW, hsame⟩ := X0.leave (v := some (.int (own_f1 p1 p2))) (fun h => by rw [Bd.returns] at h; cases h)
  refine ⟨_, _, pre0 _ ?_, hrun, hended, _, _, rfl, ?_, ⟨_, rfl⟩, hW, hsame.mono (by decide) (by decide)⟩
  · skip
    have J0 : ∀ (hv : own_f1 p1 p2 = own_f1 p1 p2 ), Steps p.tables e below (s₁.setTop (mkF m 0 #[.val (.int p1), .val (.int p2)] [])) (s₁.setFrames fs) := by
      intro hv
      show Steps p.tables e below (s₁.setTop (mkF m 0 #[.val (.int p1), .val (.int p2)] [])) _
      refine XS.iloadN X0.here hx rfl (hb hby d1_0) rfl ?_
      show Steps p.tables e below (s₁.setTop (mkF m 1 #[.val (.int p1), .val (.int p2)] [(.int p1)])) _
      refine XS.iloadN X0.here hx rfl (hb hby d1_1) rfl ?_
      show Steps p.tables e below (s₁.setTop (mkF m 2 #[.val (.int p1), .val (.int p2)] [(.int p2), (.int p1)])) _
      by_cases hc2 : p2 < p1
      · replace hv := hv.trans (if_pos hc2)
        refine XS.icmpYes X0.here hx rfl (pc0 := 2) (pc' := 9) rfl (hb hby d1_2) rfl (tlt hc2).2.2.1 (by decide) (by decide) ?_
        show Steps p.tables e below (s₁.setTop (mkF m 9 #[.val (.int p1), .val (.int p2)] [])) _
        refine XS.iloadN X0.here hx rfl (hb hby d1_9) rfl ?_
        show Steps p.tables e below (s₁.setTop (mkF m 10 #[.val (.int p1), .val (.int p2)] [(.int p2)])) _
        rw [hv] at hr
        exact retI X0 hx Bd.returns (hb hby d1_10) hr
      · replace hv := hv.trans (if_neg hc2)
        refine XS.icmpNo X0.here hx rfl (hb hby d1_2) rfl (flt hc2).2.2.1 ?_
        show Steps p.tables e below (s₁.setTop (mkF m 5 #[.val (.int p1), .val (.int p2)] [])) _
        refine XS.iloadN X0.here hx rfl (hb hby d1_5) rfl ?_
        show Steps p.tables e below (s₁.setTop (mkF m 6 #[.val (.int p1), .val (.int p2)] [(.int p1)])) _
        refine XS.goto X0.here hx rfl (pc0 := 6) (pc' := 10) rfl (hb hby d1_6) (by decide) (by decide) ?_
        show Steps p.tables e below (s₁.setTop (mkF m 10 #[.val (.int p1), .val (.int p2)] [(.int p1)])) _
        rw [hv] at hr
        exact retI X0 hx Bd.returns (hb hby d1_10) hr
    exact J0 rfl
  · show Q1 p1 p2 h0 n0 _ s₁.heap _
    rw [e0]
    exact ⟨rfl, N0, rfl⟩
theorem d2_0 : decode jdk_29_method_65_code 0 = .ok (.iload_n 0, 1) := by decide +kernel
theorem d2_1 : decode jdk_29_method_65_code 1 = .ok (.iload_n 1, 1) := by decide +kernel
theorem d2_2 : decode jdk_29_method_65_code 2 = .ok (.if_icmp .lt 7, 3) := by decide +kernel
theorem d2_5 : decode jdk_29_method_65_code 5 = .ok (.iload_n 0, 1) := by decide +kernel
theorem d2_6 : decode jdk_29_method_65_code 6 = .ok (.goto 4, 3) := by decide +kernel
theorem d2_9 : decode jdk_29_method_65_code 9 = .ok (.iload_n 1, 1) := by decide +kernel
theorem d2_10 : decode jdk_29_method_65_code 10 = .ok (.ireturn, 1) := by decide +kernel
def own_f2 (p1 : Int32) (p2 : Int32) : Int32 := (if p1 < p2 then p2 else p1)
def Q2 (p1 : Int32) (p2 : Int32) (h0 : Heap) (n0 : Nat) (v : Option Value) (h : Heap) (L : List Loc) : Prop := v = some (.int (own_f2 p1 p2)) ∧ Fr n0 L ∧ h = h0
theorem ef_2 (m : MethodId) (x0 : Int32) (x1 : Int32) : entryFrame m #[(.int x0), (.int x1)] 2 = mkF m 0 #[.val (.int x0), .val (.int x1)] [] := by first | (simp [entryFrame, mkF, argsToLocals, Value.category]; done) | rfl
set_option maxRecDepth 65536 in
set_option maxHeartbeats 40000000 in
theorem rm2 (l : Launch) (Z : State) (a0 : Array Value) (hw : ∀ d ∈ tables_1, d.before a0 Z = true) (ws : List Jvm.Cond) (p1 : Int32) (p2 : Int32) (h0 : Heap) (n0 : Nat) :
    MetFree l (⟨"java/lang/Math", "max", "(II)I"⟩ : MethodName) (head1 (Jvm.Cond.code (⟨"java/lang/Math", "max", "(II)I"⟩ : MethodName) jdk_29_method_65_code 2 (some .int) :: ws) ({ frames := 0, cells := 0, slots := 0, locals := 0 } : Room)) (fun a U => a = #[(.int p1), (.int p2)] ∧ Z.Warmed39 U.vm ∧ U.heap = h0) (fun _ _ _ _ _ => True) (fun _ U o U' => ∃ v L, o = .returned v ∧ Q2 p1 p2 h0 n0 v U'.heap L ∧ FrameEnd U o U' L ({ frames := 0, cells := 0, slots := 0, locals := 0 } : Room).cells ({ frames := 0, cells := 0, slots := 0, locals := 0 } : Room).slots) := by
  refine MetFree.of_bodySF (Jvm.Free.JP.mathPlain rfl (by decide +kernel)) hisR ?_
  intro p e s m args below meth c s₁ Bd hml0 hP hK
  obtain ⟨rfl, hZ, hh⟩ := hP
  have hx := Bd.exec
  have hby := Bd.bytes
  have hml : c.maxLocals = 2 := hml0
  have hown : s.vm.findClass "java/lang/Math" = some m.cls := findClass_of_methodNamed Bd.named
  have hnm := (name_of_methodNamed Bd.named Bd.method).1
  have X0 : Stand p l e ({ frames := 0, cells := 0, slots := 0, locals := 0 } : Room) s m #[(.int p1), (.int p2)] below meth c s₁ [] 0 0 := Stand.of_body Bd
  have e0 : s₁.heap = h0 := by rw [← hh, Bd.state]; rfl
  have N0 := Fr.nil n0
  have pre0 : ∀ t, Steps p.tables e below (s₁.setTop (mkF m 0 #[.val (.int p1), .val (.int p2)] [])) t → Steps p.tables e below (s₁.setTop (entryFrame m #[(.int p1), (.int p2)] 2)) t := fun t k => castTop (ef_2 m p1 p2) k
  obtain ⟨fs, hr, hrun, hended, hW, hsame⟩ := X0.leave (v := some (.int (own_f2 p1 p2))) (fun h => by rw [Bd.returns] at h; cases h)
  refine ⟨_, _, pre0 _ ?_, hrun, hended, _, _, rfl, ?_, ⟨_, rfl⟩, hW, hsame.mono (by decide) (by decide)⟩
  · skip
    have J0 : ∀ (hv : own_f2 p1 p2 = own_f2 p1 p2 ), Steps p.tables e below (s₁.setTop (mkF m 0 #[.val (.int p1), .val (.int p2)] [])) (s₁.setFrames fs) := by
      intro hv
      show Steps p.tables e below (s₁.setTop (mkF m 0 #[.val (.int p1), .val (.int p2)] [])) _
      refine XS.iloadN X0.here hx rfl (hb hby d2_0) rfl ?_
      show Steps p.tables e below (s₁.setTop (mkF m 1 #[.val (.int p1), .val (.int p2)] [(.int p1)])) _
      refine XS.iloadN X0.here hx rfl (hb hby d2_1) rfl ?_
      show Steps p.tables e below (s₁.setTop (mkF m 2 #[.val (.int p1), .val (.int p2)] [(.int p2), (.int p1)])) _
      by_cases hc2 : p1 < p2
      · replace hv := hv.trans (if_pos hc2)
        refine XS.icmpYes X0.here hx rfl (pc0 := 2) (pc' := 9) rfl (hb hby d2_2) rfl (tlt hc2).1 (by decide) (by decide) ?_
        show Steps p.tables e below (s₁.setTop (mkF m 9 #[.val (.int p1), .val (.int p2)] [])) _
        refine XS.iloadN X0.here hx rfl (hb hby d2_9) rfl ?_
        show Steps p.tables e below (s₁.setTop (mkF m 10 #[.val (.int p1), .val (.int p2)] [(.int p2)])) _
        rw [hv] at hr
        exact retI X0 hx Bd.returns (hb hby d2_10) hr
      · replace hv := hv.trans (if_neg hc2)
        refine XS.icmpNo X0.here hx rfl (hb hby d2_2) rfl (flt hc2).1 ?_
        show Steps p.tables e below (s₁.setTop (mkF m 5 #[.val (.int p1), .val (.int p2)] [])) _
        refine XS.iloadN X0.here hx rfl (hb hby d2_5) rfl ?_
        show Steps p.tables e below (s₁.setTop (mkF m 6 #[.val (.int p1), .val (.int p2)] [(.int p1)])) _
        refine XS.goto X0.here hx rfl (pc0 := 6) (pc' := 10) rfl (hb hby d2_6) (by decide) (by decide) ?_
        show Steps p.tables e below (s₁.setTop (mkF m 10 #[.val (.int p1), .val (.int p2)] [(.int p1)])) _
        rw [hv] at hr
        exact retI X0 hx Bd.returns (hb hby d2_10) hr
    exact J0 rfl
  · show Q2 p1 p2 h0 n0 _ s₁.heap _
    rw [e0]
    exact ⟨rfl, N0, rfl⟩
theorem d3_0 : decode prog_8_method_4_code 0 = .ok (.iload_n 0, 1) := by decide +kernel
theorem d3_1 : decode prog_8_method_4_code 1 = .ok (.iconst 1, 1) := by decide +kernel
theorem d3_2 : decode prog_8_method_4_code 2 = .ok (.if_icmp .lt 13, 3) := by decide +kernel
theorem d3_5 : decode prog_8_method_4_code 5 = .ok (.iload_n 0, 1) := by decide +kernel
theorem d3_6 : decode prog_8_method_4_code 6 = .ok (.ldc 123, 2) := by decide +kernel
theorem d3_8 : decode prog_8_method_4_code 8 = .ok (.if_icmp .gt 7, 3) := by decide +kernel
theorem d3_11 : decode prog_8_method_4_code 11 = .ok (.iconst 1, 1) := by decide +kernel
theorem d3_12 : decode prog_8_method_4_code 12 = .ok (.goto 4, 3) := by decide +kernel
theorem d3_15 : decode prog_8_method_4_code 15 = .ok (.iconst 0, 1) := by decide +kernel
theorem d3_16 : decode prog_8_method_4_code 16 = .ok (.ireturn, 1) := by decide +kernel
def own_f3_15 (p1 : Int32) : Int32 := (0 : Int32)
def own_f3 (p1 : Int32) : Int32 := (if p1 < (1 : Int32) then (own_f3_15 p1 ) else (if (65535 : Int32) < p1 then (own_f3_15 p1 ) else (1 : Int32)))
def Q3 (p1 : Int32) (h0 : Heap) (n0 : Nat) (v : Option Value) (h : Heap) (L : List Loc) : Prop := v = some (.int (own_f3 p1)) ∧ Fr n0 L ∧ h = h0
theorem ef_3 (m : MethodId) (x0 : Int32) : entryFrame m #[(.int x0)] 1 = mkF m 0 #[.val (.int x0)] [] := by first | (simp [entryFrame, mkF, argsToLocals, Value.category]; done) | rfl
set_option maxRecDepth 65536 in
set_option maxHeartbeats 40000000 in
theorem rm3 (l : Launch) (Z : State) (a0 : Array Value) (hw : ∀ d ∈ tables_1, d.before a0 Z = true) (ws : List Jvm.Cond) (p1 : Int32) (h0 : Heap) (n0 : Nat) :
    MetFree l (⟨"com/example/cormorant/cormorant/job/CallHosts", "isPort", "(I)Z"⟩ : MethodName) (head1 (Jvm.Cond.code (⟨"com/example/cormorant/cormorant/job/CallHosts", "isPort", "(I)Z"⟩ : MethodName) prog_8_method_4_code 1 (some .boolean) :: ws) ({ frames := 0, cells := 0, slots := 0, locals := 0 } : Room)) (fun a U => a = #[(.int p1)] ∧ Z.Warmed39 U.vm ∧ U.heap = h0) (fun _ _ _ _ _ => True) (fun _ U o U' => ∃ v L, o = .returned v ∧ Q3 p1 h0 n0 v U'.heap L ∧ FrameEnd U o U' L ({ frames := 0, cells := 0, slots := 0, locals := 0 } : Room).cells ({ frames := 0, cells := 0, slots := 0, locals := 0 } : Room).slots) := by
  refine MetFree.of_bodySF (plainFor_of_name pn_0) hisR ?_
  intro p e s m args below meth c s₁ Bd hml0 hP hK
  obtain ⟨rfl, hZ, hh⟩ := hP
  have hx := Bd.exec
  have hby := Bd.bytes
  have hml : c.maxLocals = 1 := hml0
  have hown : s.vm.findClass "com/example/cormorant/cormorant/job/CallHosts" = some m.cls := findClass_of_methodNamed Bd.named
  have hnm := (name_of_methodNamed Bd.named Bd.method).1
  have X0 : Stand p l e ({ frames := 0, cells := 0, slots := 0, locals := 0 } : Room) s m #[(.int p1)] below meth c s₁ [] 0 0 := Stand.of_body Bd
  have e0 : s₁.heap = h0 := by rw [← hh, Bd.state]; rfl
  have N0 := Fr.nil n0
  have pre0 : ∀ t, Steps p.tables e below (s₁.setTop (mkF m 0 #[.val (.int p1)] [])) t → Steps p.tables e below (s₁.setTop (entryFrame m #[(.int p1)] 1)) t := fun t k => castTop (ef_3 m p1) k
  obtain ⟨fs, hr, hrun, hended, hW, hsame⟩ := X0.leave (v := some (.int (own_f3 p1))) (fun h => by rw [Bd.returns] at h; cases h)
  refine ⟨_, _, pre0 _ ?_, hrun, hended, _, _, rfl, ?_, ⟨_, rfl⟩, hW, hsame.mono (by decide) (by decide)⟩
  · skip
    have J15 : ∀ (hv : own_f3 p1 = own_f3_15 p1 ), Steps p.tables e below (s₁.setTop (mkF m 15 #[.val (.int p1)] [])) (s₁.setFrames fs) := by
      intro hv
      show Steps p.tables e below (s₁.setTop (mkF m 15 #[.val (.int p1)] [])) _
      refine XS.iconst X0.here hx rfl (hb hby d3_15) ?_
      show Steps p.tables e below (s₁.setTop (mkF m 16 #[.val (.int p1)] [(.int (0 : Int32))])) _
      rw [hv] at hr
      exact retN X0 hx (t := .boolean) Bd.returns (by simp) (hb hby d3_16) hr
    have J0 : ∀ (hv : own_f3 p1 = own_f3 p1 ), Steps p.tables e below (s₁.setTop (mkF m 0 #[.val (.int p1)] [])) (s₁.setFrames fs) := by
      intro hv
      show Steps p.tables e below (s₁.setTop (mkF m 0 #[.val (.int p1)] [])) _
      refine XS.iloadN X0.here hx rfl (hb hby d3_0) rfl ?_
      show Steps p.tables e below (s₁.setTop (mkF m 1 #[.val (.int p1)] [(.int p1)])) _
      refine XS.iconst X0.here hx rfl (hb hby d3_1) ?_
      show Steps p.tables e below (s₁.setTop (mkF m 2 #[.val (.int p1)] [(.int (1 : Int32)), (.int p1)])) _
      by_cases hc2 : p1 < (1 : Int32)
      · replace hv := hv.trans (if_pos hc2)
        refine XS.icmpYes X0.here hx rfl (pc0 := 2) (pc' := 15) rfl (hb hby d3_2) rfl (tlt hc2).1 (by decide) (by decide) ?_
        exact J15  hv
      · replace hv := hv.trans (if_neg hc2)
        refine XS.icmpNo X0.here hx rfl (hb hby d3_2) rfl (flt hc2).1 ?_
        show Steps p.tables e below (s₁.setTop (mkF m 5 #[.val (.int p1)] [])) _
        refine XS.iloadN X0.here hx rfl (hb hby d3_5) rfl ?_
        show Steps p.tables e below (s₁.setTop (mkF m 6 #[.val (.int p1)] [(.int p1)])) _
        refine X0.ldcInt hx hown (mvT hZ (hw _ (List.mem_of_getElem? (i := 11) rfl))) (g := (mkF m 6 #[.val (.int p1)] [(.int p1)])) rfl (hb hby d3_6) _ ?_
        show Steps p.tables e below (s₁.setTop (mkF m 8 #[.val (.int p1)] [(.int (65535 : Int32)), (.int p1)])) _
        by_cases hc8 : (65535 : Int32) < p1
        · replace hv := hv.trans (if_pos hc8)
          refine XS.icmpYes X0.here hx rfl (pc0 := 8) (pc' := 15) rfl (hb hby d3_8) rfl (tlt hc8).2.2.1 (by decide) (by decide) ?_
          exact J15  hv
        · replace hv := hv.trans (if_neg hc8)
          refine XS.icmpNo X0.here hx rfl (hb hby d3_8) rfl (flt hc8).2.2.1 ?_
          show Steps p.tables e below (s₁.setTop (mkF m 11 #[.val (.int p1)] [])) _
          refine XS.iconst X0.here hx rfl (hb hby d3_11) ?_
          show Steps p.tables e below (s₁.setTop (mkF m 12 #[.val (.int p1)] [(.int (1 : Int32))])) _
          refine XS.goto X0.here hx rfl (pc0 := 12) (pc' := 16) rfl (hb hby d3_12) (by decide) (by decide) ?_
          show Steps p.tables e below (s₁.setTop (mkF m 16 #[.val (.int p1)] [(.int (1 : Int32))])) _
          rw [hv] at hr
          exact retN X0 hx (t := .boolean) Bd.returns (by simp) (hb hby d3_16) hr
    exact J0 rfl
  · show Q3 p1 h0 n0 _ s₁.heap _
    rw [e0]
    exact ⟨rfl, N0, rfl⟩

theorem own_minI (x y : Int32) : (own_f1 x y).toInt = min x.toInt y.toInt := by
  unfold own_f1
  split
  · next h => rw [Int32.lt_iff_toInt_lt] at h; omega
  · next h => rw [Int32.lt_iff_toInt_lt] at h; omega
theorem own_maxI (x y : Int32) : (own_f2 x y).toInt = max x.toInt y.toInt := by
  unfold own_f2
  split
  · next h => rw [Int32.lt_iff_toInt_lt] at h; omega
  · next h => rw [Int32.lt_iff_toInt_lt] at h; omega
theorem own_port (x : Int32) : ¬ own_f3 x = 0 ↔ 1 ≤ x.toInt ∧ x.toInt ≤ 65535 := by
  have e1 : (1 : Int32).toInt = 1 := by decide
  have e2 : (65535 : Int32).toInt = 65535 := by decide
  unfold own_f3 own_f3_15
  split
  · next h => rw [Int32.lt_iff_toInt_lt, e1] at h; simp; omega
  · next h =>
    rw [Int32.lt_iff_toInt_lt, e1] at h
    split
    · next h2 => rw [Int32.lt_iff_toInt_lt, e2] at h2; simp; omega
    · next h2 => rw [Int32.lt_iff_toInt_lt, e2] at h2; simp; omega
theorem own_main (a b c : Int32) (h1 : ¬ own_f3 (own_f1 (own_f1 a b) c) = 0) (h2 : ¬ own_f3 (own_f2 (own_f2 a b) c) = 0) : ¬ own_f3 ((((a + b) + c) - (own_f1 (own_f1 a b) c)) - (own_f2 (own_f2 a b) c)) = 0 := by
  rw [own_port] at *
  generalize h3 : own_f1 (own_f1 a b) c = lo at *
  generalize h4 : own_f2 (own_f2 a b) c = hi at *
  have e1 : lo.toInt = min (min a.toInt b.toInt) c.toInt := by rw [← h3, own_minI, own_minI]
  have e2 : hi.toInt = max (max a.toInt b.toInt) c.toInt := by rw [← h4, own_maxI, own_maxI]
  have s1 := Jvm.Kit.i32_add (p := a) (q := b) (by omega) (by omega)
  have s2 := Jvm.Kit.i32_add (p := a + b) (q := c) (by omega) (by omega)
  have s3 := Jvm.Kit.i32_sub (p := a + b + c) (q := lo) (by omega) (by omega)
  have s4 := Jvm.Kit.i32_sub (p := a + b + c - lo) (q := hi) (by omega) (by omega)
  rw [s4, s3, s2, s1]
  omega

def Q0 (n0 : Nat) (v : Option Value) (h : Heap) (L : List Loc) : Prop := v = some (.int (1 : Int32)) ∧ Fr n0 L
theorem ef_0 (m : MethodId) (x0 : Int32) (x1 : Int32) (x2 : Int32) : entryFrame m #[(.int x0), (.int x1), (.int x2)] maxLocals = mkF m 0 #[.val (.int x0), .val (.int x1), .val (.int x2), .unset, .unset, .unset, .unset, .unset] [] := by first | (simp [entryFrame, mkF, argsToLocals, Value.category, maxLocals]; done) | rfl
set_option maxRecDepth 65536 in
set_option maxHeartbeats 40000000 in
theorem rm0 (l : Launch) (Z : State) (a0 : Array Value) (hw : ∀ d ∈ tables_1, d.before a0 Z = true) (ws : List Jvm.Cond) (p1 : Int32) (p2 : Int32) (p3 : Int32) (h0 : Heap) (n0 : Nat) (Z0 : n0 ≤ h0.size) :
    MetFree l x (head1 (Jvm.Cond.code x code maxLocals ret :: ws) room_1) (fun a U => a = #[(.int p1), (.int p2), (.int p3)] ∧ Z.Warmed39 U.vm ∧ U.heap = h0) (fun _ _ _ _ _ => True) (fun _ U o U' => ∃ v L, o = .returned v ∧ Q0 n0 v U'.heap L ∧ FrameEnd U o U' L room_1.cells room_1.slots) := by
  refine MetFree.of_bodySF (plainFor_of_name pn_1) hisR ?_
  intro p e s m args below meth c s₁ Bd hml0 hP hK
  obtain ⟨rfl, hZ, hh⟩ := hP
  have hx := Bd.exec
  have hby := Bd.bytes
  have hml : c.maxLocals = 8 := hml0
  have hown : s.vm.findClass "com/example/cormorant/cormorant/job/CallHostsIsPortPinLaw" = some m.cls := findClass_of_methodNamed Bd.named
  have hnm := (name_of_methodNamed Bd.named Bd.method).1
  have X0 : Stand p l e room_1 s m #[(.int p1), (.int p2), (.int p3)] below meth c s₁ [] 0 0 := Stand.of_body Bd
  have e0 : s₁.heap = h0 := by rw [← hh, Bd.state]; rfl
  have N0 := Fr.nil n0
  have pre0 : ∀ t, Steps p.tables e below (s₁.setTop (mkF m 0 #[.val (.int p1), .val (.int p2), .val (.int p3), .unset, .unset, .unset, .unset, .unset] [])) t → Steps p.tables e below (s₁.setTop (entryFrame m #[(.int p1), (.int p2), (.int p3)] maxLocals)) t := fun t k => castTop (ef_0 m p1 p2 p3) k
  have pre1 : ∀ t, Steps p.tables e below (s₁.setTop (mkF m 2 #[.val (.int p1), .val (.int p2), .val (.int p3), .unset, .unset, .unset, .unset, .unset] [(.int p2), (.int p1)])) t → Steps p.tables e below (s₁.setTop (entryFrame m #[(.int p1), (.int p2), (.int p3)] maxLocals)) t := by
    intro t kt
    refine pre0 t ?_
    show Steps p.tables e below (s₁.setTop (mkF m 0 #[.val (.int p1), .val (.int p2), .val (.int p3), .unset, .unset, .unset, .unset, .unset] [])) _
    refine XS.iloadN X0.here hx rfl (hb hby at_0) rfl ?_
    show Steps p.tables e below (s₁.setTop (mkF m 1 #[.val (.int p1), .val (.int p2), .val (.int p3), .unset, .unset, .unset, .unset, .unset] [(.int p1)])) _
    refine XS.iloadN X0.here hx rfl (hb hby at_1) rfl ?_
    exact kt
  obtain ⟨_, _, ⟨T2, L2, k2, n2⟩, -, X2, ⟨Lc2, hQ2, l2, y2, z2⟩, st2⟩ := Jvm.LawKit.callS X0 hx (y := (⟨"java/lang/Math", "min", "(II)I"⟩ : MethodName)) hown (mvT hZ (hw _ (List.mem_of_getElem? (i := 0) rfl))) (mvT hZ (hw _ (List.mem_of_getElem? (i := 1) rfl))) (mvT hZ (hw _ (List.mem_of_getElem? (i := 2) rfl))) (mvT hZ (hw _ (List.mem_of_getElem? (i := 3) rfl))) (by decide) (backOf (W := 0) (rm1 l Z a0 hw [] p1 p2 h0 n0) hZ (hw _ (List.mem_of_getElem? (i := 3) rfl)) (hw _ (List.mem_of_getElem? (i := 2) rfl)) (by decide) (by decide)) (g := (mkF m 2 #[.val (.int p1), .val (.int p2), .val (.int p3), .unset, .unset, .unset, .unset, .unset] [(.int p2), (.int p1)])) rfl (by rw [hml]; rfl) (argsL := [(.int p1), (.int p2)]) (rest := []) (lenOf pd_0 rfl) rfl (by show 2 * 0 + _ ≤ _; exact Nat.le_of_eq rfl) (hb hby at_2) (fun _ _ => ⟨rfl, e0, (by decide : 0 + 0 ≤ _), (by decide : 0 + 0 ≤ _)⟩)
  dsimp only [Pt.U, Pt.locs, Pt.cells, Pt.slots] at X2 l2 y2 z2 st2 hQ2
  subst l2 y2 z2
  obtain ⟨rfl, N2q, e2⟩ := hQ2
  have N2 := Fr.app N0 N2q
  have pre2 : ∀ t, Steps p.tables e below (T2.setTop (mkF m 5 #[.val (.int p1), .val (.int p2), .val (.int p3), .unset, .unset, .unset, .unset, .unset] [(.int (own_f1 p1 p2))])) t → Steps p.tables e below (s₁.setTop (entryFrame m #[(.int p1), (.int p2), (.int p3)] maxLocals)) t := fun t kt => pre1 t (st2 _ kt)
  have pre3 : ∀ t, Steps p.tables e below (T2.setTop (mkF m 6 #[.val (.int p1), .val (.int p2), .val (.int p3), .unset, .unset, .unset, .unset, .unset] [(.int p3), (.int (own_f1 p1 p2))])) t → Steps p.tables e below (s₁.setTop (entryFrame m #[(.int p1), (.int p2), (.int p3)] maxLocals)) t := by
    intro t kt
    refine pre2 t ?_
    show Steps p.tables e below (T2.setTop (mkF m 5 #[.val (.int p1), .val (.int p2), .val (.int p3), .unset, .unset, .unset, .unset, .unset] [(.int (own_f1 p1 p2))])) _
    refine XS.iloadN X2.here hx rfl (hb hby at_5) rfl ?_
    exact kt
  obtain ⟨_, _, ⟨T4, L4, k4, n4⟩, -, X4, ⟨Lc4, hQ4, l4, y4, z4⟩, st4⟩ := Jvm.LawKit.callS X2 hx (y := (⟨"java/lang/Math", "min", "(II)I"⟩ : MethodName)) hown (mvT hZ (hw _ (List.mem_of_getElem? (i := 0) rfl))) (mvT hZ (hw _ (List.mem_of_getElem? (i := 1) rfl))) (mvT hZ (hw _ (List.mem_of_getElem? (i := 2) rfl))) (mvT hZ (hw _ (List.mem_of_getElem? (i := 3) rfl))) (by decide) (backOf (W := 0) (rm1 l Z a0 hw [] (own_f1 p1 p2) p3 h0 n0) hZ (hw _ (List.mem_of_getElem? (i := 3) rfl)) (hw _ (List.mem_of_getElem? (i := 2) rfl)) (by decide) (by decide)) (g := (mkF m 6 #[.val (.int p1), .val (.int p2), .val (.int p3), .unset, .unset, .unset, .unset, .unset] [(.int p3), (.int (own_f1 p1 p2))])) rfl (by rw [hml]; rfl) (argsL := [(.int (own_f1 p1 p2)), (.int p3)]) (rest := []) (lenOf pd_0 rfl) rfl (by show 2 * 0 + _ ≤ _; exact Nat.le_of_eq rfl) (hb hby at_6) (fun _ _ => ⟨rfl, e2, (by decide : 0 + 0 ≤ _), (by decide : 0 + 0 ≤ _)⟩)
  dsimp only [Pt.U, Pt.locs, Pt.cells, Pt.slots] at X4 l4 y4 z4 st4 hQ4
  subst l4 y4 z4
  obtain ⟨rfl, N4q, e4⟩ := hQ4
  have N4 := Fr.app N2 N4q
  have pre4 : ∀ t, Steps p.tables e below (T4.setTop (mkF m 9 #[.val (.int p1), .val (.int p2), .val (.int p3), .unset, .unset, .unset, .unset, .unset] [(.int (own_f1 (own_f1 p1 p2) p3))])) t → Steps p.tables e below (s₁.setTop (entryFrame m #[(.int p1), (.int p2), (.int p3)] maxLocals)) t := fun t kt => pre3 t (st4 _ kt)
  have pre5 : ∀ t, Steps p.tables e below (T4.setTop (mkF m 12 #[.val (.int p1), .val (.int p2), .val (.int p3), .val (.int (own_f1 (own_f1 p1 p2) p3)), .unset, .unset, .unset, .unset] [(.int p2), (.int p1)])) t → Steps p.tables e below (s₁.setTop (entryFrame m #[(.int p1), (.int p2), (.int p3)] maxLocals)) t := by
    intro t kt
    refine pre4 t ?_
    show Steps p.tables e below (T4.setTop (mkF m 9 #[.val (.int p1), .val (.int p2), .val (.int p3), .unset, .unset, .unset, .unset, .unset] [(.int (own_f1 (own_f1 p1 p2) p3))])) _
    refine XS.istoreN X4.here hx rfl (hb hby at_9) rfl (l' := #[.val (.int p1), .val (.int p2), .val (.int p3), .val (.int (own_f1 (own_f1 p1 p2) p3)), .unset, .unset, .unset, .unset]) rfl ?_
    show Steps p.tables e below (T4.setTop (mkF m 10 #[.val (.int p1), .val (.int p2), .val (.int p3), .val (.int (own_f1 (own_f1 p1 p2) p3)), .unset, .unset, .unset, .unset] [])) _
    refine XS.iloadN X4.here hx rfl (hb hby at_10) rfl ?_
    show Steps p.tables e below (T4.setTop (mkF m 11 #[.val (.int p1), .val (.int p2), .val (.int p3), .val (.int (own_f1 (own_f1 p1 p2) p3)), .unset, .unset, .unset, .unset] [(.int p1)])) _
    refine XS.iloadN X4.here hx rfl (hb hby at_11) rfl ?_
    exact kt
  obtain ⟨_, _, ⟨T6, L6, k6, n6⟩, -, X6, ⟨Lc6, hQ6, l6, y6, z6⟩, st6⟩ := Jvm.LawKit.callS X4 hx (y := (⟨"java/lang/Math", "max", "(II)I"⟩ : MethodName)) hown (mvT hZ (hw _ (List.mem_of_getElem? (i := 4) rfl))) (mvT hZ (hw _ (List.mem_of_getElem? (i := 5) rfl))) (mvT hZ (hw _ (List.mem_of_getElem? (i := 2) rfl))) (mvT hZ (hw _ (List.mem_of_getElem? (i := 6) rfl))) (by decide) (backOf (W := 0) (rm2 l Z a0 hw [] p1 p2 h0 n0) hZ (hw _ (List.mem_of_getElem? (i := 6) rfl)) (hw _ (List.mem_of_getElem? (i := 2) rfl)) (by decide) (by decide)) (g := (mkF m 12 #[.val (.int p1), .val (.int p2), .val (.int p3), .val (.int (own_f1 (own_f1 p1 p2) p3)), .unset, .unset, .unset, .unset] [(.int p2), (.int p1)])) rfl (by rw [hml]; rfl) (argsL := [(.int p1), (.int p2)]) (rest := []) (lenOf pd_0 rfl) rfl (by show 2 * 0 + _ ≤ _; exact Nat.le_of_eq rfl) (hb hby at_12) (fun _ _ => ⟨rfl, e4, (by decide : 0 + 0 ≤ _), (by decide : 0 + 0 ≤ _)⟩)
  dsimp only [Pt.U, Pt.locs, Pt.cells, Pt.slots] at X6 l6 y6 z6 st6 hQ6
  subst l6 y6 z6
  obtain ⟨rfl, N6q, e6⟩ := hQ6
  have N6 := Fr.app N4 N6q
  have pre6 : ∀ t, Steps p.tables e below (T6.setTop (mkF m 15 #[.val (.int p1), .val (.int p2), .val (.int p3), .val (.int (own_f1 (own_f1 p1 p2) p3)), .unset, .unset, .unset, .unset] [(.int (own_f2 p1 p2))])) t → Steps p.tables e below (s₁.setTop (entryFrame m #[(.int p1), (.int p2), (.int p3)] maxLocals)) t := fun t kt => pre5 t (st6 _ kt)
  have pre7 : ∀ t, Steps p.tables e below (T6.setTop (mkF m 16 #[.val (.int p1), .val (.int p2), .val (.int p3), .val (.int (own_f1 (own_f1 p1 p2) p3)), .unset, .unset, .unset, .unset] [(.int p3), (.int (own_f2 p1 p2))])) t → Steps p.tables e below (s₁.setTop (entryFrame m #[(.int p1), (.int p2), (.int p3)] maxLocals)) t := by
    intro t kt
    refine pre6 t ?_
    show Steps p.tables e below (T6.setTop (mkF m 15 #[.val (.int p1), .val (.int p2), .val (.int p3), .val (.int (own_f1 (own_f1 p1 p2) p3)), .unset, .unset, .unset, .unset] [(.int (own_f2 p1 p2))])) _
    refine XS.iloadN X6.here hx rfl (hb hby at_15) rfl ?_
    exact kt
  obtain ⟨_, _, ⟨T8, L8, k8, n8⟩, -, X8, ⟨Lc8, hQ8, l8, y8, z8⟩, st8⟩ := Jvm.LawKit.callS X6 hx (y := (⟨"java/lang/Math", "max", "(II)I"⟩ : MethodName)) hown (mvT hZ (hw _ (List.mem_of_getElem? (i := 4) rfl))) (mvT hZ (hw _ (List.mem_of_getElem? (i := 5) rfl))) (mvT hZ (hw _ (List.mem_of_getElem? (i := 2) rfl))) (mvT hZ (hw _ (List.mem_of_getElem? (i := 6) rfl))) (by decide) (backOf (W := 0) (rm2 l Z a0 hw [] (own_f2 p1 p2) p3 h0 n0) hZ (hw _ (List.mem_of_getElem? (i := 6) rfl)) (hw _ (List.mem_of_getElem? (i := 2) rfl)) (by decide) (by decide)) (g := (mkF m 16 #[.val (.int p1), .val (.int p2), .val (.int p3), .val (.int (own_f1 (own_f1 p1 p2) p3)), .unset, .unset, .unset, .unset] [(.int p3), (.int (own_f2 p1 p2))])) rfl (by rw [hml]; rfl) (argsL := [(.int (own_f2 p1 p2)), (.int p3)]) (rest := []) (lenOf pd_0 rfl) rfl (by show 2 * 0 + _ ≤ _; exact Nat.le_of_eq rfl) (hb hby at_16) (fun _ _ => ⟨rfl, e6, (by decide : 0 + 0 ≤ _), (by decide : 0 + 0 ≤ _)⟩)
  dsimp only [Pt.U, Pt.locs, Pt.cells, Pt.slots] at X8 l8 y8 z8 st8 hQ8
  subst l8 y8 z8
  obtain ⟨rfl, N8q, e8⟩ := hQ8
  have N8 := Fr.app N6 N8q
  have pre8 : ∀ t, Steps p.tables e below (T8.setTop (mkF m 19 #[.val (.int p1), .val (.int p2), .val (.int p3), .val (.int (own_f1 (own_f1 p1 p2) p3)), .unset, .unset, .unset, .unset] [(.int (own_f2 (own_f2 p1 p2) p3))])) t → Steps p.tables e below (s₁.setTop (entryFrame m #[(.int p1), (.int p2), (.int p3)] maxLocals)) t := fun t kt => pre7 t (st8 _ kt)
  have pre9 : ∀ t, Steps p.tables e below (T8.setTop (mkF m 34 #[.val (.int p1), .val (.int p2), .val (.int p3), .val (.int (own_f1 (own_f1 p1 p2) p3)), .val (.int (own_f2 (own_f2 p1 p2) p3)), .val (.int ((((p1 + p2) + p3) - (own_f1 (own_f1 p1 p2) p3)) - (own_f2 (own_f2 p1 p2) p3))), .unset, .unset] [(.int (1 : Int32))])) t → Steps p.tables e below (s₁.setTop (entryFrame m #[(.int p1), (.int p2), (.int p3)] maxLocals)) t := by
    intro t kt
    refine pre8 t ?_
    show Steps p.tables e below (T8.setTop (mkF m 19 #[.val (.int p1), .val (.int p2), .val (.int p3), .val (.int (own_f1 (own_f1 p1 p2) p3)), .unset, .unset, .unset, .unset] [(.int (own_f2 (own_f2 p1 p2) p3))])) _
    refine XS.istore X8.here hx rfl (hb hby at_19) rfl (l' := #[.val (.int p1), .val (.int p2), .val (.int p3), .val (.int (own_f1 (own_f1 p1 p2) p3)), .val (.int (own_f2 (own_f2 p1 p2) p3)), .unset, .unset, .unset]) rfl ?_
    show Steps p.tables e below (T8.setTop (mkF m 21 #[.val (.int p1), .val (.int p2), .val (.int p3), .val (.int (own_f1 (own_f1 p1 p2) p3)), .val (.int (own_f2 (own_f2 p1 p2) p3)), .unset, .unset, .unset] [])) _
    refine XS.iloadN X8.here hx rfl (hb hby at_21) rfl ?_
    show Steps p.tables e below (T8.setTop (mkF m 22 #[.val (.int p1), .val (.int p2), .val (.int p3), .val (.int (own_f1 (own_f1 p1 p2) p3)), .val (.int (own_f2 (own_f2 p1 p2) p3)), .unset, .unset, .unset] [(.int p1)])) _
    refine XS.iloadN X8.here hx rfl (hb hby at_22) rfl ?_
    show Steps p.tables e below (T8.setTop (mkF m 23 #[.val (.int p1), .val (.int p2), .val (.int p3), .val (.int (own_f1 (own_f1 p1 p2) p3)), .val (.int (own_f2 (own_f2 p1 p2) p3)), .unset, .unset, .unset] [(.int p2), (.int p1)])) _
    refine XS.iadd X8.here hx rfl (hb hby at_23) rfl ?_
    show Steps p.tables e below (T8.setTop (mkF m 24 #[.val (.int p1), .val (.int p2), .val (.int p3), .val (.int (own_f1 (own_f1 p1 p2) p3)), .val (.int (own_f2 (own_f2 p1 p2) p3)), .unset, .unset, .unset] [(.int (p1 + p2))])) _
    refine XS.iloadN X8.here hx rfl (hb hby at_24) rfl ?_
    show Steps p.tables e below (T8.setTop (mkF m 25 #[.val (.int p1), .val (.int p2), .val (.int p3), .val (.int (own_f1 (own_f1 p1 p2) p3)), .val (.int (own_f2 (own_f2 p1 p2) p3)), .unset, .unset, .unset] [(.int p3), (.int (p1 + p2))])) _
    refine XS.iadd X8.here hx rfl (hb hby at_25) rfl ?_
    show Steps p.tables e below (T8.setTop (mkF m 26 #[.val (.int p1), .val (.int p2), .val (.int p3), .val (.int (own_f1 (own_f1 p1 p2) p3)), .val (.int (own_f2 (own_f2 p1 p2) p3)), .unset, .unset, .unset] [(.int ((p1 + p2) + p3))])) _
    refine XS.iloadN X8.here hx rfl (hb hby at_26) rfl ?_
    show Steps p.tables e below (T8.setTop (mkF m 27 #[.val (.int p1), .val (.int p2), .val (.int p3), .val (.int (own_f1 (own_f1 p1 p2) p3)), .val (.int (own_f2 (own_f2 p1 p2) p3)), .unset, .unset, .unset] [(.int (own_f1 (own_f1 p1 p2) p3)), (.int ((p1 + p2) + p3))])) _
    refine XS.isub X8.here hx rfl (hb hby at_27) rfl ?_
    show Steps p.tables e below (T8.setTop (mkF m 28 #[.val (.int p1), .val (.int p2), .val (.int p3), .val (.int (own_f1 (own_f1 p1 p2) p3)), .val (.int (own_f2 (own_f2 p1 p2) p3)), .unset, .unset, .unset] [(.int (((p1 + p2) + p3) - (own_f1 (own_f1 p1 p2) p3)))])) _
    refine XS.iload X8.here hx rfl (hb hby at_28) rfl ?_
    show Steps p.tables e below (T8.setTop (mkF m 30 #[.val (.int p1), .val (.int p2), .val (.int p3), .val (.int (own_f1 (own_f1 p1 p2) p3)), .val (.int (own_f2 (own_f2 p1 p2) p3)), .unset, .unset, .unset] [(.int (own_f2 (own_f2 p1 p2) p3)), (.int (((p1 + p2) + p3) - (own_f1 (own_f1 p1 p2) p3)))])) _
    refine XS.isub X8.here hx rfl (hb hby at_30) rfl ?_
    show Steps p.tables e below (T8.setTop (mkF m 31 #[.val (.int p1), .val (.int p2), .val (.int p3), .val (.int (own_f1 (own_f1 p1 p2) p3)), .val (.int (own_f2 (own_f2 p1 p2) p3)), .unset, .unset, .unset] [(.int ((((p1 + p2) + p3) - (own_f1 (own_f1 p1 p2) p3)) - (own_f2 (own_f2 p1 p2) p3)))])) _
    refine XS.istore X8.here hx rfl (hb hby at_31) rfl (l' := #[.val (.int p1), .val (.int p2), .val (.int p3), .val (.int (own_f1 (own_f1 p1 p2) p3)), .val (.int (own_f2 (own_f2 p1 p2) p3)), .val (.int ((((p1 + p2) + p3) - (own_f1 (own_f1 p1 p2) p3)) - (own_f2 (own_f2 p1 p2) p3))), .unset, .unset]) rfl ?_
    show Steps p.tables e below (T8.setTop (mkF m 33 #[.val (.int p1), .val (.int p2), .val (.int p3), .val (.int (own_f1 (own_f1 p1 p2) p3)), .val (.int (own_f2 (own_f2 p1 p2) p3)), .val (.int ((((p1 + p2) + p3) - (own_f1 (own_f1 p1 p2) p3)) - (own_f2 (own_f2 p1 p2) p3))), .unset, .unset] [])) _
    refine XS.iconst X8.here hx rfl (hb hby at_33) ?_
    exact kt
  obtain ⟨_, _, ⟨T10, L10, k10, n10⟩, -, X10, ⟨Lc10, hQ10, l10, y10, z10⟩, st10⟩ := Jvm.LawKit.callS X8 hx (y := (⟨"com/example/cormorant/cormorant/job/CallHosts", "isPort", "(I)Z"⟩ : MethodName)) hown (mvT hZ (hw _ (List.mem_of_getElem? (i := 7) rfl))) (mvT hZ (hw _ (List.mem_of_getElem? (i := 8) rfl))) (mvT hZ (hw _ (List.mem_of_getElem? (i := 9) rfl))) (mvT hZ (hw _ (List.mem_of_getElem? (i := 10) rfl))) (by decide) (backOf (W := 0) (rm3 l Z a0 hw [] (1 : Int32) h0 n0) hZ (hw _ (List.mem_of_getElem? (i := 10) rfl)) (hw _ (List.mem_of_getElem? (i := 9) rfl)) (by decide) (by decide)) (g := (mkF m 34 #[.val (.int p1), .val (.int p2), .val (.int p3), .val (.int (own_f1 (own_f1 p1 p2) p3)), .val (.int (own_f2 (own_f2 p1 p2) p3)), .val (.int ((((p1 + p2) + p3) - (own_f1 (own_f1 p1 p2) p3)) - (own_f2 (own_f2 p1 p2) p3))), .unset, .unset] [(.int (1 : Int32))])) rfl (by rw [hml]; rfl) (argsL := [(.int (1 : Int32))]) (rest := []) (lenOf pd_1 rfl) rfl (by show 2 * 0 + _ ≤ _; exact Nat.le_of_eq rfl) (hb hby at_34) (fun _ _ => ⟨rfl, e8, (by decide : 0 + 0 ≤ _), (by decide : 0 + 0 ≤ _)⟩)
  dsimp only [Pt.U, Pt.locs, Pt.cells, Pt.slots] at X10 l10 y10 z10 st10 hQ10
  subst l10 y10 z10
  obtain ⟨rfl, N10q, e10⟩ := hQ10
  have N10 := Fr.app N8 N10q
  have pre10 : ∀ t, Steps p.tables e below (T10.setTop (mkF m 37 #[.val (.int p1), .val (.int p2), .val (.int p3), .val (.int (own_f1 (own_f1 p1 p2) p3)), .val (.int (own_f2 (own_f2 p1 p2) p3)), .val (.int ((((p1 + p2) + p3) - (own_f1 (own_f1 p1 p2) p3)) - (own_f2 (own_f2 p1 p2) p3))), .unset, .unset] [(.int (own_f3 (1 : Int32)))])) t → Steps p.tables e below (s₁.setTop (entryFrame m #[(.int p1), (.int p2), (.int p3)] maxLocals)) t := fun t kt => pre9 t (st10 _ kt)
  have pre11 : ∀ t, Steps p.tables e below (T10.setTop (mkF m 42 #[.val (.int p1), .val (.int p2), .val (.int p3), .val (.int (own_f1 (own_f1 p1 p2) p3)), .val (.int (own_f2 (own_f2 p1 p2) p3)), .val (.int ((((p1 + p2) + p3) - (own_f1 (own_f1 p1 p2) p3)) - (own_f2 (own_f2 p1 p2) p3))), .unset, .unset] [(.int (65535 : Int32))])) t → Steps p.tables e below (s₁.setTop (entryFrame m #[(.int p1), (.int p2), (.int p3)] maxLocals)) t := by
    intro t kt
    refine pre10 t ?_
    show Steps p.tables e below (T10.setTop (mkF m 37 #[.val (.int p1), .val (.int p2), .val (.int p3), .val (.int (own_f1 (own_f1 p1 p2) p3)), .val (.int (own_f2 (own_f2 p1 p2) p3)), .val (.int ((((p1 + p2) + p3) - (own_f1 (own_f1 p1 p2) p3)) - (own_f2 (own_f2 p1 p2) p3))), .unset, .unset] [(.int (own_f3 (1 : Int32)))])) _
    refine XS.ifNo X10.here hx rfl (hb hby at_37) rfl ((if0 _ _).trans (feq (by decide)).1) ?_
    show Steps p.tables e below (T10.setTop (mkF m 40 #[.val (.int p1), .val (.int p2), .val (.int p3), .val (.int (own_f1 (own_f1 p1 p2) p3)), .val (.int (own_f2 (own_f2 p1 p2) p3)), .val (.int ((((p1 + p2) + p3) - (own_f1 (own_f1 p1 p2) p3)) - (own_f2 (own_f2 p1 p2) p3))), .unset, .unset] [])) _
    refine X10.ldcInt hx hown (mvT hZ (hw _ (List.mem_of_getElem? (i := 12) rfl))) (g := (mkF m 40 #[.val (.int p1), .val (.int p2), .val (.int p3), .val (.int (own_f1 (own_f1 p1 p2) p3)), .val (.int (own_f2 (own_f2 p1 p2) p3)), .val (.int ((((p1 + p2) + p3) - (own_f1 (own_f1 p1 p2) p3)) - (own_f2 (own_f2 p1 p2) p3))), .unset, .unset] [])) rfl (hb hby at_40) _ ?_
    exact kt
  obtain ⟨_, _, ⟨T12, L12, k12, n12⟩, -, X12, ⟨Lc12, hQ12, l12, y12, z12⟩, st12⟩ := Jvm.LawKit.callS X10 hx (y := (⟨"com/example/cormorant/cormorant/job/CallHosts", "isPort", "(I)Z"⟩ : MethodName)) hown (mvT hZ (hw _ (List.mem_of_getElem? (i := 7) rfl))) (mvT hZ (hw _ (List.mem_of_getElem? (i := 8) rfl))) (mvT hZ (hw _ (List.mem_of_getElem? (i := 9) rfl))) (mvT hZ (hw _ (List.mem_of_getElem? (i := 10) rfl))) (by decide) (backOf (W := 0) (rm3 l Z a0 hw [] (65535 : Int32) h0 n0) hZ (hw _ (List.mem_of_getElem? (i := 10) rfl)) (hw _ (List.mem_of_getElem? (i := 9) rfl)) (by decide) (by decide)) (g := (mkF m 42 #[.val (.int p1), .val (.int p2), .val (.int p3), .val (.int (own_f1 (own_f1 p1 p2) p3)), .val (.int (own_f2 (own_f2 p1 p2) p3)), .val (.int ((((p1 + p2) + p3) - (own_f1 (own_f1 p1 p2) p3)) - (own_f2 (own_f2 p1 p2) p3))), .unset, .unset] [(.int (65535 : Int32))])) rfl (by rw [hml]; rfl) (argsL := [(.int (65535 : Int32))]) (rest := []) (lenOf pd_1 rfl) rfl (by show 2 * 0 + _ ≤ _; exact Nat.le_of_eq rfl) (hb hby at_42) (fun _ _ => ⟨rfl, e10, (by decide : 0 + 0 ≤ _), (by decide : 0 + 0 ≤ _)⟩)
  dsimp only [Pt.U, Pt.locs, Pt.cells, Pt.slots] at X12 l12 y12 z12 st12 hQ12
  subst l12 y12 z12
  obtain ⟨rfl, N12q, e12⟩ := hQ12
  have N12 := Fr.app N10 N12q
  have pre12 : ∀ t, Steps p.tables e below (T12.setTop (mkF m 45 #[.val (.int p1), .val (.int p2), .val (.int p3), .val (.int (own_f1 (own_f1 p1 p2) p3)), .val (.int (own_f2 (own_f2 p1 p2) p3)), .val (.int ((((p1 + p2) + p3) - (own_f1 (own_f1 p1 p2) p3)) - (own_f2 (own_f2 p1 p2) p3))), .unset, .unset] [(.int (own_f3 (65535 : Int32)))])) t → Steps p.tables e below (s₁.setTop (entryFrame m #[(.int p1), (.int p2), (.int p3)] maxLocals)) t := fun t kt => pre11 t (st12 _ kt)
  have pre13 : ∀ t, Steps p.tables e below (T12.setTop (mkF m 49 #[.val (.int p1), .val (.int p2), .val (.int p3), .val (.int (own_f1 (own_f1 p1 p2) p3)), .val (.int (own_f2 (own_f2 p1 p2) p3)), .val (.int ((((p1 + p2) + p3) - (own_f1 (own_f1 p1 p2) p3)) - (own_f2 (own_f2 p1 p2) p3))), .unset, .unset] [(.int (0 : Int32))])) t → Steps p.tables e below (s₁.setTop (entryFrame m #[(.int p1), (.int p2), (.int p3)] maxLocals)) t := by
    intro t kt
    refine pre12 t ?_
    show Steps p.tables e below (T12.setTop (mkF m 45 #[.val (.int p1), .val (.int p2), .val (.int p3), .val (.int (own_f1 (own_f1 p1 p2) p3)), .val (.int (own_f2 (own_f2 p1 p2) p3)), .val (.int ((((p1 + p2) + p3) - (own_f1 (own_f1 p1 p2) p3)) - (own_f2 (own_f2 p1 p2) p3))), .unset, .unset] [(.int (own_f3 (65535 : Int32)))])) _
    refine XS.ifNo X12.here hx rfl (hb hby at_45) rfl ((if0 _ _).trans (feq (by decide)).1) ?_
    show Steps p.tables e below (T12.setTop (mkF m 48 #[.val (.int p1), .val (.int p2), .val (.int p3), .val (.int (own_f1 (own_f1 p1 p2) p3)), .val (.int (own_f2 (own_f2 p1 p2) p3)), .val (.int ((((p1 + p2) + p3) - (own_f1 (own_f1 p1 p2) p3)) - (own_f2 (own_f2 p1 p2) p3))), .unset, .unset] [])) _
    refine XS.iconst X12.here hx rfl (hb hby at_48) ?_
    exact kt
  obtain ⟨_, _, ⟨T14, L14, k14, n14⟩, -, X14, ⟨Lc14, hQ14, l14, y14, z14⟩, st14⟩ := Jvm.LawKit.callS X12 hx (y := (⟨"com/example/cormorant/cormorant/job/CallHosts", "isPort", "(I)Z"⟩ : MethodName)) hown (mvT hZ (hw _ (List.mem_of_getElem? (i := 7) rfl))) (mvT hZ (hw _ (List.mem_of_getElem? (i := 8) rfl))) (mvT hZ (hw _ (List.mem_of_getElem? (i := 9) rfl))) (mvT hZ (hw _ (List.mem_of_getElem? (i := 10) rfl))) (by decide) (backOf (W := 0) (rm3 l Z a0 hw [] (0 : Int32) h0 n0) hZ (hw _ (List.mem_of_getElem? (i := 10) rfl)) (hw _ (List.mem_of_getElem? (i := 9) rfl)) (by decide) (by decide)) (g := (mkF m 49 #[.val (.int p1), .val (.int p2), .val (.int p3), .val (.int (own_f1 (own_f1 p1 p2) p3)), .val (.int (own_f2 (own_f2 p1 p2) p3)), .val (.int ((((p1 + p2) + p3) - (own_f1 (own_f1 p1 p2) p3)) - (own_f2 (own_f2 p1 p2) p3))), .unset, .unset] [(.int (0 : Int32))])) rfl (by rw [hml]; rfl) (argsL := [(.int (0 : Int32))]) (rest := []) (lenOf pd_1 rfl) rfl (by show 2 * 0 + _ ≤ _; exact Nat.le_of_eq rfl) (hb hby at_49) (fun _ _ => ⟨rfl, e12, (by decide : 0 + 0 ≤ _), (by decide : 0 + 0 ≤ _)⟩)
  dsimp only [Pt.U, Pt.locs, Pt.cells, Pt.slots] at X14 l14 y14 z14 st14 hQ14
  subst l14 y14 z14
  obtain ⟨rfl, N14q, e14⟩ := hQ14
  have N14 := Fr.app N12 N14q
  have pre14 : ∀ t, Steps p.tables e below (T14.setTop (mkF m 52 #[.val (.int p1), .val (.int p2), .val (.int p3), .val (.int (own_f1 (own_f1 p1 p2) p3)), .val (.int (own_f2 (own_f2 p1 p2) p3)), .val (.int ((((p1 + p2) + p3) - (own_f1 (own_f1 p1 p2) p3)) - (own_f2 (own_f2 p1 p2) p3))), .unset, .unset] [(.int (own_f3 (0 : Int32)))])) t → Steps p.tables e below (s₁.setTop (entryFrame m #[(.int p1), (.int p2), (.int p3)] maxLocals)) t := fun t kt => pre13 t (st14 _ kt)
  have pre15 : ∀ t, Steps p.tables e below (T14.setTop (mkF m 57 #[.val (.int p1), .val (.int p2), .val (.int p3), .val (.int (own_f1 (own_f1 p1 p2) p3)), .val (.int (own_f2 (own_f2 p1 p2) p3)), .val (.int ((((p1 + p2) + p3) - (own_f1 (own_f1 p1 p2) p3)) - (own_f2 (own_f2 p1 p2) p3))), .unset, .unset] [(.int (65536 : Int32))])) t → Steps p.tables e below (s₁.setTop (entryFrame m #[(.int p1), (.int p2), (.int p3)] maxLocals)) t := by
    intro t kt
    refine pre14 t ?_
    show Steps p.tables e below (T14.setTop (mkF m 52 #[.val (.int p1), .val (.int p2), .val (.int p3), .val (.int (own_f1 (own_f1 p1 p2) p3)), .val (.int (own_f2 (own_f2 p1 p2) p3)), .val (.int ((((p1 + p2) + p3) - (own_f1 (own_f1 p1 p2) p3)) - (own_f2 (own_f2 p1 p2) p3))), .unset, .unset] [(.int (own_f3 (0 : Int32)))])) _
    refine XS.ifNo X14.here hx rfl (hb hby at_52) rfl ((if0 _ _).trans (teq (by decide)).2) ?_
    show Steps p.tables e below (T14.setTop (mkF m 55 #[.val (.int p1), .val (.int p2), .val (.int p3), .val (.int (own_f1 (own_f1 p1 p2) p3)), .val (.int (own_f2 (own_f2 p1 p2) p3)), .val (.int ((((p1 + p2) + p3) - (own_f1 (own_f1 p1 p2) p3)) - (own_f2 (own_f2 p1 p2) p3))), .unset, .unset] [])) _
    refine X14.ldcInt hx hown (mvT hZ (hw _ (List.mem_of_getElem? (i := 13) rfl))) (g := (mkF m 55 #[.val (.int p1), .val (.int p2), .val (.int p3), .val (.int (own_f1 (own_f1 p1 p2) p3)), .val (.int (own_f2 (own_f2 p1 p2) p3)), .val (.int ((((p1 + p2) + p3) - (own_f1 (own_f1 p1 p2) p3)) - (own_f2 (own_f2 p1 p2) p3))), .unset, .unset] [])) rfl (hb hby at_55) _ ?_
    exact kt
  obtain ⟨_, _, ⟨T16, L16, k16, n16⟩, -, X16, ⟨Lc16, hQ16, l16, y16, z16⟩, st16⟩ := Jvm.LawKit.callS X14 hx (y := (⟨"com/example/cormorant/cormorant/job/CallHosts", "isPort", "(I)Z"⟩ : MethodName)) hown (mvT hZ (hw _ (List.mem_of_getElem? (i := 7) rfl))) (mvT hZ (hw _ (List.mem_of_getElem? (i := 8) rfl))) (mvT hZ (hw _ (List.mem_of_getElem? (i := 9) rfl))) (mvT hZ (hw _ (List.mem_of_getElem? (i := 10) rfl))) (by decide) (backOf (W := 0) (rm3 l Z a0 hw [] (65536 : Int32) h0 n0) hZ (hw _ (List.mem_of_getElem? (i := 10) rfl)) (hw _ (List.mem_of_getElem? (i := 9) rfl)) (by decide) (by decide)) (g := (mkF m 57 #[.val (.int p1), .val (.int p2), .val (.int p3), .val (.int (own_f1 (own_f1 p1 p2) p3)), .val (.int (own_f2 (own_f2 p1 p2) p3)), .val (.int ((((p1 + p2) + p3) - (own_f1 (own_f1 p1 p2) p3)) - (own_f2 (own_f2 p1 p2) p3))), .unset, .unset] [(.int (65536 : Int32))])) rfl (by rw [hml]; rfl) (argsL := [(.int (65536 : Int32))]) (rest := []) (lenOf pd_1 rfl) rfl (by show 2 * 0 + _ ≤ _; exact Nat.le_of_eq rfl) (hb hby at_57) (fun _ _ => ⟨rfl, e14, (by decide : 0 + 0 ≤ _), (by decide : 0 + 0 ≤ _)⟩)
  dsimp only [Pt.U, Pt.locs, Pt.cells, Pt.slots] at X16 l16 y16 z16 st16 hQ16
  subst l16 y16 z16
  obtain ⟨rfl, N16q, e16⟩ := hQ16
  have N16 := Fr.app N14 N16q
  have pre16 : ∀ t, Steps p.tables e below (T16.setTop (mkF m 60 #[.val (.int p1), .val (.int p2), .val (.int p3), .val (.int (own_f1 (own_f1 p1 p2) p3)), .val (.int (own_f2 (own_f2 p1 p2) p3)), .val (.int ((((p1 + p2) + p3) - (own_f1 (own_f1 p1 p2) p3)) - (own_f2 (own_f2 p1 p2) p3))), .unset, .unset] [(.int (own_f3 (65536 : Int32)))])) t → Steps p.tables e below (s₁.setTop (entryFrame m #[(.int p1), (.int p2), (.int p3)] maxLocals)) t := fun t kt => pre15 t (st16 _ kt)
  have pre17 : ∀ t, Steps p.tables e below (T16.setTop (mkF m 71 #[.val (.int p1), .val (.int p2), .val (.int p3), .val (.int (own_f1 (own_f1 p1 p2) p3)), .val (.int (own_f2 (own_f2 p1 p2) p3)), .val (.int ((((p1 + p2) + p3) - (own_f1 (own_f1 p1 p2) p3)) - (own_f2 (own_f2 p1 p2) p3))), .val (.int (1 : Int32)), .unset] [(.int (own_f1 (own_f1 p1 p2) p3))])) t → Steps p.tables e below (s₁.setTop (entryFrame m #[(.int p1), (.int p2), (.int p3)] maxLocals)) t := by
    intro t kt
    refine pre16 t ?_
    show Steps p.tables e below (T16.setTop (mkF m 60 #[.val (.int p1), .val (.int p2), .val (.int p3), .val (.int (own_f1 (own_f1 p1 p2) p3)), .val (.int (own_f2 (own_f2 p1 p2) p3)), .val (.int ((((p1 + p2) + p3) - (own_f1 (own_f1 p1 p2) p3)) - (own_f2 (own_f2 p1 p2) p3))), .unset, .unset] [(.int (own_f3 (65536 : Int32)))])) _
    refine XS.ifNo X16.here hx rfl (hb hby at_60) rfl ((if0 _ _).trans (teq (by decide)).2) ?_
    show Steps p.tables e below (T16.setTop (mkF m 63 #[.val (.int p1), .val (.int p2), .val (.int p3), .val (.int (own_f1 (own_f1 p1 p2) p3)), .val (.int (own_f2 (own_f2 p1 p2) p3)), .val (.int ((((p1 + p2) + p3) - (own_f1 (own_f1 p1 p2) p3)) - (own_f2 (own_f2 p1 p2) p3))), .unset, .unset] [])) _
    refine XS.iconst X16.here hx rfl (hb hby at_63) ?_
    show Steps p.tables e below (T16.setTop (mkF m 64 #[.val (.int p1), .val (.int p2), .val (.int p3), .val (.int (own_f1 (own_f1 p1 p2) p3)), .val (.int (own_f2 (own_f2 p1 p2) p3)), .val (.int ((((p1 + p2) + p3) - (own_f1 (own_f1 p1 p2) p3)) - (own_f2 (own_f2 p1 p2) p3))), .unset, .unset] [(.int (1 : Int32))])) _
    refine XS.goto X16.here hx rfl (pc0 := 64) (pc' := 68) rfl (hb hby at_64) (by decide) (by decide) ?_
    show Steps p.tables e below (T16.setTop (mkF m 68 #[.val (.int p1), .val (.int p2), .val (.int p3), .val (.int (own_f1 (own_f1 p1 p2) p3)), .val (.int (own_f2 (own_f2 p1 p2) p3)), .val (.int ((((p1 + p2) + p3) - (own_f1 (own_f1 p1 p2) p3)) - (own_f2 (own_f2 p1 p2) p3))), .unset, .unset] [(.int (1 : Int32))])) _
    refine XS.istore X16.here hx rfl (hb hby at_68) rfl (l' := #[.val (.int p1), .val (.int p2), .val (.int p3), .val (.int (own_f1 (own_f1 p1 p2) p3)), .val (.int (own_f2 (own_f2 p1 p2) p3)), .val (.int ((((p1 + p2) + p3) - (own_f1 (own_f1 p1 p2) p3)) - (own_f2 (own_f2 p1 p2) p3))), .val (.int (1 : Int32)), .unset]) rfl ?_
    show Steps p.tables e below (T16.setTop (mkF m 70 #[.val (.int p1), .val (.int p2), .val (.int p3), .val (.int (own_f1 (own_f1 p1 p2) p3)), .val (.int (own_f2 (own_f2 p1 p2) p3)), .val (.int ((((p1 + p2) + p3) - (own_f1 (own_f1 p1 p2) p3)) - (own_f2 (own_f2 p1 p2) p3))), .val (.int (1 : Int32)), .unset] [])) _
    refine XS.iloadN X16.here hx rfl (hb hby at_70) rfl ?_
    exact kt
  obtain ⟨_, _, ⟨T18, L18, k18, n18⟩, -, X18, ⟨Lc18, hQ18, l18, y18, z18⟩, st18⟩ := Jvm.LawKit.callS X16 hx (y := (⟨"com/example/cormorant/cormorant/job/CallHosts", "isPort", "(I)Z"⟩ : MethodName)) hown (mvT hZ (hw _ (List.mem_of_getElem? (i := 7) rfl))) (mvT hZ (hw _ (List.mem_of_getElem? (i := 8) rfl))) (mvT hZ (hw _ (List.mem_of_getElem? (i := 9) rfl))) (mvT hZ (hw _ (List.mem_of_getElem? (i := 10) rfl))) (by decide) (backOf (W := 0) (rm3 l Z a0 hw [] (own_f1 (own_f1 p1 p2) p3) h0 n0) hZ (hw _ (List.mem_of_getElem? (i := 10) rfl)) (hw _ (List.mem_of_getElem? (i := 9) rfl)) (by decide) (by decide)) (g := (mkF m 71 #[.val (.int p1), .val (.int p2), .val (.int p3), .val (.int (own_f1 (own_f1 p1 p2) p3)), .val (.int (own_f2 (own_f2 p1 p2) p3)), .val (.int ((((p1 + p2) + p3) - (own_f1 (own_f1 p1 p2) p3)) - (own_f2 (own_f2 p1 p2) p3))), .val (.int (1 : Int32)), .unset] [(.int (own_f1 (own_f1 p1 p2) p3))])) rfl (by rw [hml]; rfl) (argsL := [(.int (own_f1 (own_f1 p1 p2) p3))]) (rest := []) (lenOf pd_1 rfl) rfl (by show 2 * 0 + _ ≤ _; exact Nat.le_of_eq rfl) (hb hby at_71) (fun _ _ => ⟨rfl, e16, (by decide : 0 + 0 ≤ _), (by decide : 0 + 0 ≤ _)⟩)
  dsimp only [Pt.U, Pt.locs, Pt.cells, Pt.slots] at X18 l18 y18 z18 st18 hQ18
  subst l18 y18 z18
  obtain ⟨rfl, N18q, e18⟩ := hQ18
  have N18 := Fr.app N16 N18q
  have pre18 : ∀ t, Steps p.tables e below (T18.setTop (mkF m 74 #[.val (.int p1), .val (.int p2), .val (.int p3), .val (.int (own_f1 (own_f1 p1 p2) p3)), .val (.int (own_f2 (own_f2 p1 p2) p3)), .val (.int ((((p1 + p2) + p3) - (own_f1 (own_f1 p1 p2) p3)) - (own_f2 (own_f2 p1 p2) p3))), .val (.int (1 : Int32)), .unset] [(.int (own_f3 (own_f1 (own_f1 p1 p2) p3)))])) t → Steps p.tables e below (s₁.setTop (entryFrame m #[(.int p1), (.int p2), (.int p3)] maxLocals)) t := fun t kt => pre17 t (st18 _ kt)
  by_cases hc74 : (own_f3 (own_f1 (own_f1 p1 p2) p3)) = (0 : Int32)
  · have pre19 : ∀ t, Steps p.tables e below (T18.setTop (mkF m 93 #[.val (.int p1), .val (.int p2), .val (.int p3), .val (.int (own_f1 (own_f1 p1 p2) p3)), .val (.int (own_f2 (own_f2 p1 p2) p3)), .val (.int ((((p1 + p2) + p3) - (own_f1 (own_f1 p1 p2) p3)) - (own_f2 (own_f2 p1 p2) p3))), .val (.int (1 : Int32)), .unset] [])) t → Steps p.tables e below (s₁.setTop (entryFrame m #[(.int p1), (.int p2), (.int p3)] maxLocals)) t := by
      intro t kt
      refine pre18 t ?_
      show Steps p.tables e below (T18.setTop (mkF m 74 #[.val (.int p1), .val (.int p2), .val (.int p3), .val (.int (own_f1 (own_f1 p1 p2) p3)), .val (.int (own_f2 (own_f2 p1 p2) p3)), .val (.int ((((p1 + p2) + p3) - (own_f1 (own_f1 p1 p2) p3)) - (own_f2 (own_f2 p1 p2) p3))), .val (.int (1 : Int32)), .unset] [(.int (own_f3 (own_f1 (own_f1 p1 p2) p3)))])) _
      refine XS.ifYes X18.here hx rfl (pc0 := 74) (pc' := 93) rfl (hb hby at_74) rfl ((if0 _ _).trans (teq hc74).1) (by decide) (by decide) ?_
      exact kt
    have pre20 : ∀ t, Steps p.tables e below (T18.setTop (mkF m 115 #[.val (.int p1), .val (.int p2), .val (.int p3), .val (.int (own_f1 (own_f1 p1 p2) p3)), .val (.int (own_f2 (own_f2 p1 p2) p3)), .val (.int ((((p1 + p2) + p3) - (own_f1 (own_f1 p1 p2) p3)) - (own_f2 (own_f2 p1 p2) p3))), .val (.int (1 : Int32)), .val (.int (1 : Int32))] [(.int (1 : Int32))])) t → Steps p.tables e below (s₁.setTop (entryFrame m #[(.int p1), (.int p2), (.int p3)] maxLocals)) t := by
      intro t kt
      refine pre19 t ?_
      show Steps p.tables e below (T18.setTop (mkF m 93 #[.val (.int p1), .val (.int p2), .val (.int p3), .val (.int (own_f1 (own_f1 p1 p2) p3)), .val (.int (own_f2 (own_f2 p1 p2) p3)), .val (.int ((((p1 + p2) + p3) - (own_f1 (own_f1 p1 p2) p3)) - (own_f2 (own_f2 p1 p2) p3))), .val (.int (1 : Int32)), .unset] [])) _
      refine XS.iconst X18.here hx rfl (hb hby at_93) ?_
      show Steps p.tables e below (T18.setTop (mkF m 94 #[.val (.int p1), .val (.int p2), .val (.int p3), .val (.int (own_f1 (own_f1 p1 p2) p3)), .val (.int (own_f2 (own_f2 p1 p2) p3)), .val (.int ((((p1 + p2) + p3) - (own_f1 (own_f1 p1 p2) p3)) - (own_f2 (own_f2 p1 p2) p3))), .val (.int (1 : Int32)), .unset] [(.int (1 : Int32))])) _
      refine XS.goto X18.here hx rfl (pc0 := 94) (pc' := 98) rfl (hb hby at_94) (by decide) (by decide) ?_
      show Steps p.tables e below (T18.setTop (mkF m 98 #[.val (.int p1), .val (.int p2), .val (.int p3), .val (.int (own_f1 (own_f1 p1 p2) p3)), .val (.int (own_f2 (own_f2 p1 p2) p3)), .val (.int ((((p1 + p2) + p3) - (own_f1 (own_f1 p1 p2) p3)) - (own_f2 (own_f2 p1 p2) p3))), .val (.int (1 : Int32)), .unset] [(.int (1 : Int32))])) _
      refine XS.istore X18.here hx rfl (hb hby at_98) rfl (l' := #[.val (.int p1), .val (.int p2), .val (.int p3), .val (.int (own_f1 (own_f1 p1 p2) p3)), .val (.int (own_f2 (own_f2 p1 p2) p3)), .val (.int ((((p1 + p2) + p3) - (own_f1 (own_f1 p1 p2) p3)) - (own_f2 (own_f2 p1 p2) p3))), .val (.int (1 : Int32)), .val (.int (1 : Int32))]) rfl ?_
      show Steps p.tables e below (T18.setTop (mkF m 100 #[.val (.int p1), .val (.int p2), .val (.int p3), .val (.int (own_f1 (own_f1 p1 p2) p3)), .val (.int (own_f2 (own_f2 p1 p2) p3)), .val (.int ((((p1 + p2) + p3) - (own_f1 (own_f1 p1 p2) p3)) - (own_f2 (own_f2 p1 p2) p3))), .val (.int (1 : Int32)), .val (.int (1 : Int32))] [])) _
      refine XS.iload X18.here hx rfl (hb hby at_100) rfl ?_
      show Steps p.tables e below (T18.setTop (mkF m 102 #[.val (.int p1), .val (.int p2), .val (.int p3), .val (.int (own_f1 (own_f1 p1 p2) p3)), .val (.int (own_f2 (own_f2 p1 p2) p3)), .val (.int ((((p1 + p2) + p3) - (own_f1 (own_f1 p1 p2) p3)) - (own_f2 (own_f2 p1 p2) p3))), .val (.int (1 : Int32)), .val (.int (1 : Int32))] [(.int (1 : Int32))])) _
      refine XS.ifNo X18.here hx rfl (hb hby at_102) rfl ((if0 _ _).trans (feq (by decide)).1) ?_
      show Steps p.tables e below (T18.setTop (mkF m 105 #[.val (.int p1), .val (.int p2), .val (.int p3), .val (.int (own_f1 (own_f1 p1 p2) p3)), .val (.int (own_f2 (own_f2 p1 p2) p3)), .val (.int ((((p1 + p2) + p3) - (own_f1 (own_f1 p1 p2) p3)) - (own_f2 (own_f2 p1 p2) p3))), .val (.int (1 : Int32)), .val (.int (1 : Int32))] [])) _
      refine XS.iload X18.here hx rfl (hb hby at_105) rfl ?_
      show Steps p.tables e below (T18.setTop (mkF m 107 #[.val (.int p1), .val (.int p2), .val (.int p3), .val (.int (own_f1 (own_f1 p1 p2) p3)), .val (.int (own_f2 (own_f2 p1 p2) p3)), .val (.int ((((p1 + p2) + p3) - (own_f1 (own_f1 p1 p2) p3)) - (own_f2 (own_f2 p1 p2) p3))), .val (.int (1 : Int32)), .val (.int (1 : Int32))] [(.int (1 : Int32))])) _
      refine XS.ifNo X18.here hx rfl (hb hby at_107) rfl ((if0 _ _).trans (feq (by decide)).1) ?_
      show Steps p.tables e below (T18.setTop (mkF m 110 #[.val (.int p1), .val (.int p2), .val (.int p3), .val (.int (own_f1 (own_f1 p1 p2) p3)), .val (.int (own_f2 (own_f2 p1 p2) p3)), .val (.int ((((p1 + p2) + p3) - (own_f1 (own_f1 p1 p2) p3)) - (own_f2 (own_f2 p1 p2) p3))), .val (.int (1 : Int32)), .val (.int (1 : Int32))] [])) _
      refine XS.iconst X18.here hx rfl (hb hby at_110) ?_
      show Steps p.tables e below (T18.setTop (mkF m 111 #[.val (.int p1), .val (.int p2), .val (.int p3), .val (.int (own_f1 (own_f1 p1 p2) p3)), .val (.int (own_f2 (own_f2 p1 p2) p3)), .val (.int ((((p1 + p2) + p3) - (own_f1 (own_f1 p1 p2) p3)) - (own_f2 (own_f2 p1 p2) p3))), .val (.int (1 : Int32)), .val (.int (1 : Int32))] [(.int (1 : Int32))])) _
      refine XS.goto X18.here hx rfl (pc0 := 111) (pc' := 115) rfl (hb hby at_111) (by decide) (by decide) ?_
      exact kt
    obtain ⟨fs, hr, hrun, hended, hW, hsame⟩ := X18.leave (v := some (.int (1 : Int32))) (fun h => by rw [Bd.returns] at h; cases h)
    refine ⟨_, _, pre20 _ ?_, hrun, hended, _, _, rfl, ?_, ⟨_, rfl⟩, hW, hsame.mono (by decide) (by decide)⟩
    · show Steps p.tables e below (T18.setTop (mkF m 115 #[.val (.int p1), .val (.int p2), .val (.int p3), .val (.int (own_f1 (own_f1 p1 p2) p3)), .val (.int (own_f2 (own_f2 p1 p2) p3)), .val (.int ((((p1 + p2) + p3) - (own_f1 (own_f1 p1 p2) p3)) - (own_f2 (own_f2 p1 p2) p3))), .val (.int (1 : Int32)), .val (.int (1 : Int32))] [(.int (1 : Int32))])) _
      exact retN X18 hx (t := .boolean) Bd.returns (by simp) (hb hby at_115) hr
    · show Q0 n0 _ T18.heap _
      rw [e18]
      exact ⟨rfl, N18⟩
  · have pre21 : ∀ t, Steps p.tables e below (T18.setTop (mkF m 77 #[.val (.int p1), .val (.int p2), .val (.int p3), .val (.int (own_f1 (own_f1 p1 p2) p3)), .val (.int (own_f2 (own_f2 p1 p2) p3)), .val (.int ((((p1 + p2) + p3) - (own_f1 (own_f1 p1 p2) p3)) - (own_f2 (own_f2 p1 p2) p3))), .val (.int (1 : Int32)), .unset] [])) t → Steps p.tables e below (s₁.setTop (entryFrame m #[(.int p1), (.int p2), (.int p3)] maxLocals)) t := by
      intro t kt
      refine pre18 t ?_
      show Steps p.tables e below (T18.setTop (mkF m 74 #[.val (.int p1), .val (.int p2), .val (.int p3), .val (.int (own_f1 (own_f1 p1 p2) p3)), .val (.int (own_f2 (own_f2 p1 p2) p3)), .val (.int ((((p1 + p2) + p3) - (own_f1 (own_f1 p1 p2) p3)) - (own_f2 (own_f2 p1 p2) p3))), .val (.int (1 : Int32)), .unset] [(.int (own_f3 (own_f1 (own_f1 p1 p2) p3)))])) _
      refine XS.ifNo X18.here hx rfl (hb hby at_74) rfl ((if0 _ _).trans (feq hc74).1) ?_
      exact kt
    have pre22 : ∀ t, Steps p.tables e below (T18.setTop (mkF m 79 #[.val (.int p1), .val (.int p2), .val (.int p3), .val (.int (own_f1 (own_f1 p1 p2) p3)), .val (.int (own_f2 (own_f2 p1 p2) p3)), .val (.int ((((p1 + p2) + p3) - (own_f1 (own_f1 p1 p2) p3)) - (own_f2 (own_f2 p1 p2) p3))), .val (.int (1 : Int32)), .unset] [(.int (own_f2 (own_f2 p1 p2) p3))])) t → Steps p.tables e below (s₁.setTop (entryFrame m #[(.int p1), (.int p2), (.int p3)] maxLocals)) t := by
      intro t kt
      refine pre21 t ?_
      show Steps p.tables e below (T18.setTop (mkF m 77 #[.val (.int p1), .val (.int p2), .val (.int p3), .val (.int (own_f1 (own_f1 p1 p2) p3)), .val (.int (own_f2 (own_f2 p1 p2) p3)), .val (.int ((((p1 + p2) + p3) - (own_f1 (own_f1 p1 p2) p3)) - (own_f2 (own_f2 p1 p2) p3))), .val (.int (1 : Int32)), .unset] [])) _
      refine XS.iload X18.here hx rfl (hb hby at_77) rfl ?_
      exact kt
    obtain ⟨_, _, ⟨T23, L23, k23, n23⟩, -, X23, ⟨Lc23, hQ23, l23, y23, z23⟩, st23⟩ := Jvm.LawKit.callS X18 hx (y := (⟨"com/example/cormorant/cormorant/job/CallHosts", "isPort", "(I)Z"⟩ : MethodName)) hown (mvT hZ (hw _ (List.mem_of_getElem? (i := 7) rfl))) (mvT hZ (hw _ (List.mem_of_getElem? (i := 8) rfl))) (mvT hZ (hw _ (List.mem_of_getElem? (i := 9) rfl))) (mvT hZ (hw _ (List.mem_of_getElem? (i := 10) rfl))) (by decide) (backOf (W := 0) (rm3 l Z a0 hw [] (own_f2 (own_f2 p1 p2) p3) h0 n0) hZ (hw _ (List.mem_of_getElem? (i := 10) rfl)) (hw _ (List.mem_of_getElem? (i := 9) rfl)) (by decide) (by decide)) (g := (mkF m 79 #[.val (.int p1), .val (.int p2), .val (.int p3), .val (.int (own_f1 (own_f1 p1 p2) p3)), .val (.int (own_f2 (own_f2 p1 p2) p3)), .val (.int ((((p1 + p2) + p3) - (own_f1 (own_f1 p1 p2) p3)) - (own_f2 (own_f2 p1 p2) p3))), .val (.int (1 : Int32)), .unset] [(.int (own_f2 (own_f2 p1 p2) p3))])) rfl (by rw [hml]; rfl) (argsL := [(.int (own_f2 (own_f2 p1 p2) p3))]) (rest := []) (lenOf pd_1 rfl) rfl (by show 2 * 0 + _ ≤ _; exact Nat.le_of_eq rfl) (hb hby at_79) (fun _ _ => ⟨rfl, e18, (by decide : 0 + 0 ≤ _), (by decide : 0 + 0 ≤ _)⟩)
    dsimp only [Pt.U, Pt.locs, Pt.cells, Pt.slots] at X23 l23 y23 z23 st23 hQ23
    subst l23 y23 z23
    obtain ⟨rfl, N23q, e23⟩ := hQ23
    have N23 := Fr.app N18 N23q
    have pre23 : ∀ t, Steps p.tables e below (T23.setTop (mkF m 82 #[.val (.int p1), .val (.int p2), .val (.int p3), .val (.int (own_f1 (own_f1 p1 p2) p3)), .val (.int (own_f2 (own_f2 p1 p2) p3)), .val (.int ((((p1 + p2) + p3) - (own_f1 (own_f1 p1 p2) p3)) - (own_f2 (own_f2 p1 p2) p3))), .val (.int (1 : Int32)), .unset] [(.int (own_f3 (own_f2 (own_f2 p1 p2) p3)))])) t → Steps p.tables e below (s₁.setTop (entryFrame m #[(.int p1), (.int p2), (.int p3)] maxLocals)) t := fun t kt => pre22 t (st23 _ kt)
    by_cases hc82 : (own_f3 (own_f2 (own_f2 p1 p2) p3)) = (0 : Int32)
    · have pre24 : ∀ t, Steps p.tables e below (T23.setTop (mkF m 93 #[.val (.int p1), .val (.int p2), .val (.int p3), .val (.int (own_f1 (own_f1 p1 p2) p3)), .val (.int (own_f2 (own_f2 p1 p2) p3)), .val (.int ((((p1 + p2) + p3) - (own_f1 (own_f1 p1 p2) p3)) - (own_f2 (own_f2 p1 p2) p3))), .val (.int (1 : Int32)), .unset] [])) t → Steps p.tables e below (s₁.setTop (entryFrame m #[(.int p1), (.int p2), (.int p3)] maxLocals)) t := by
        intro t kt
        refine pre23 t ?_
        show Steps p.tables e below (T23.setTop (mkF m 82 #[.val (.int p1), .val (.int p2), .val (.int p3), .val (.int (own_f1 (own_f1 p1 p2) p3)), .val (.int (own_f2 (own_f2 p1 p2) p3)), .val (.int ((((p1 + p2) + p3) - (own_f1 (own_f1 p1 p2) p3)) - (own_f2 (own_f2 p1 p2) p3))), .val (.int (1 : Int32)), .unset] [(.int (own_f3 (own_f2 (own_f2 p1 p2) p3)))])) _
        refine XS.ifYes X23.here hx rfl (pc0 := 82) (pc' := 93) rfl (hb hby at_82) rfl ((if0 _ _).trans (teq hc82).1) (by decide) (by decide) ?_
        exact kt
      have pre25 : ∀ t, Steps p.tables e below (T23.setTop (mkF m 115 #[.val (.int p1), .val (.int p2), .val (.int p3), .val (.int (own_f1 (own_f1 p1 p2) p3)), .val (.int (own_f2 (own_f2 p1 p2) p3)), .val (.int ((((p1 + p2) + p3) - (own_f1 (own_f1 p1 p2) p3)) - (own_f2 (own_f2 p1 p2) p3))), .val (.int (1 : Int32)), .val (.int (1 : Int32))] [(.int (1 : Int32))])) t → Steps p.tables e below (s₁.setTop (entryFrame m #[(.int p1), (.int p2), (.int p3)] maxLocals)) t := by
        intro t kt
        refine pre24 t ?_
        show Steps p.tables e below (T23.setTop (mkF m 93 #[.val (.int p1), .val (.int p2), .val (.int p3), .val (.int (own_f1 (own_f1 p1 p2) p3)), .val (.int (own_f2 (own_f2 p1 p2) p3)), .val (.int ((((p1 + p2) + p3) - (own_f1 (own_f1 p1 p2) p3)) - (own_f2 (own_f2 p1 p2) p3))), .val (.int (1 : Int32)), .unset] [])) _
        refine XS.iconst X23.here hx rfl (hb hby at_93) ?_
        show Steps p.tables e below (T23.setTop (mkF m 94 #[.val (.int p1), .val (.int p2), .val (.int p3), .val (.int (own_f1 (own_f1 p1 p2) p3)), .val (.int (own_f2 (own_f2 p1 p2) p3)), .val (.int ((((p1 + p2) + p3) - (own_f1 (own_f1 p1 p2) p3)) - (own_f2 (own_f2 p1 p2) p3))), .val (.int (1 : Int32)), .unset] [(.int (1 : Int32))])) _
        refine XS.goto X23.here hx rfl (pc0 := 94) (pc' := 98) rfl (hb hby at_94) (by decide) (by decide) ?_
        show Steps p.tables e below (T23.setTop (mkF m 98 #[.val (.int p1), .val (.int p2), .val (.int p3), .val (.int (own_f1 (own_f1 p1 p2) p3)), .val (.int (own_f2 (own_f2 p1 p2) p3)), .val (.int ((((p1 + p2) + p3) - (own_f1 (own_f1 p1 p2) p3)) - (own_f2 (own_f2 p1 p2) p3))), .val (.int (1 : Int32)), .unset] [(.int (1 : Int32))])) _
        refine XS.istore X23.here hx rfl (hb hby at_98) rfl (l' := #[.val (.int p1), .val (.int p2), .val (.int p3), .val (.int (own_f1 (own_f1 p1 p2) p3)), .val (.int (own_f2 (own_f2 p1 p2) p3)), .val (.int ((((p1 + p2) + p3) - (own_f1 (own_f1 p1 p2) p3)) - (own_f2 (own_f2 p1 p2) p3))), .val (.int (1 : Int32)), .val (.int (1 : Int32))]) rfl ?_
        show Steps p.tables e below (T23.setTop (mkF m 100 #[.val (.int p1), .val (.int p2), .val (.int p3), .val (.int (own_f1 (own_f1 p1 p2) p3)), .val (.int (own_f2 (own_f2 p1 p2) p3)), .val (.int ((((p1 + p2) + p3) - (own_f1 (own_f1 p1 p2) p3)) - (own_f2 (own_f2 p1 p2) p3))), .val (.int (1 : Int32)), .val (.int (1 : Int32))] [])) _
        refine XS.iload X23.here hx rfl (hb hby at_100) rfl ?_
        show Steps p.tables e below (T23.setTop (mkF m 102 #[.val (.int p1), .val (.int p2), .val (.int p3), .val (.int (own_f1 (own_f1 p1 p2) p3)), .val (.int (own_f2 (own_f2 p1 p2) p3)), .val (.int ((((p1 + p2) + p3) - (own_f1 (own_f1 p1 p2) p3)) - (own_f2 (own_f2 p1 p2) p3))), .val (.int (1 : Int32)), .val (.int (1 : Int32))] [(.int (1 : Int32))])) _
        refine XS.ifNo X23.here hx rfl (hb hby at_102) rfl ((if0 _ _).trans (feq (by decide)).1) ?_
        show Steps p.tables e below (T23.setTop (mkF m 105 #[.val (.int p1), .val (.int p2), .val (.int p3), .val (.int (own_f1 (own_f1 p1 p2) p3)), .val (.int (own_f2 (own_f2 p1 p2) p3)), .val (.int ((((p1 + p2) + p3) - (own_f1 (own_f1 p1 p2) p3)) - (own_f2 (own_f2 p1 p2) p3))), .val (.int (1 : Int32)), .val (.int (1 : Int32))] [])) _
        refine XS.iload X23.here hx rfl (hb hby at_105) rfl ?_
        show Steps p.tables e below (T23.setTop (mkF m 107 #[.val (.int p1), .val (.int p2), .val (.int p3), .val (.int (own_f1 (own_f1 p1 p2) p3)), .val (.int (own_f2 (own_f2 p1 p2) p3)), .val (.int ((((p1 + p2) + p3) - (own_f1 (own_f1 p1 p2) p3)) - (own_f2 (own_f2 p1 p2) p3))), .val (.int (1 : Int32)), .val (.int (1 : Int32))] [(.int (1 : Int32))])) _
        refine XS.ifNo X23.here hx rfl (hb hby at_107) rfl ((if0 _ _).trans (feq (by decide)).1) ?_
        show Steps p.tables e below (T23.setTop (mkF m 110 #[.val (.int p1), .val (.int p2), .val (.int p3), .val (.int (own_f1 (own_f1 p1 p2) p3)), .val (.int (own_f2 (own_f2 p1 p2) p3)), .val (.int ((((p1 + p2) + p3) - (own_f1 (own_f1 p1 p2) p3)) - (own_f2 (own_f2 p1 p2) p3))), .val (.int (1 : Int32)), .val (.int (1 : Int32))] [])) _
        refine XS.iconst X23.here hx rfl (hb hby at_110) ?_
        show Steps p.tables e below (T23.setTop (mkF m 111 #[.val (.int p1), .val (.int p2), .val (.int p3), .val (.int (own_f1 (own_f1 p1 p2) p3)), .val (.int (own_f2 (own_f2 p1 p2) p3)), .val (.int ((((p1 + p2) + p3) - (own_f1 (own_f1 p1 p2) p3)) - (own_f2 (own_f2 p1 p2) p3))), .val (.int (1 : Int32)), .val (.int (1 : Int32))] [(.int (1 : Int32))])) _
        refine XS.goto X23.here hx rfl (pc0 := 111) (pc' := 115) rfl (hb hby at_111) (by decide) (by decide) ?_
        exact kt
      obtain ⟨fs, hr, hrun, hended, hW, hsame⟩ := X23.leave (v := some (.int (1 : Int32))) (fun h => by rw [Bd.returns] at h; cases h)
      refine ⟨_, _, pre25 _ ?_, hrun, hended, _, _, rfl, ?_, ⟨_, rfl⟩, hW, hsame.mono (by decide) (by decide)⟩
      · show Steps p.tables e below (T23.setTop (mkF m 115 #[.val (.int p1), .val (.int p2), .val (.int p3), .val (.int (own_f1 (own_f1 p1 p2) p3)), .val (.int (own_f2 (own_f2 p1 p2) p3)), .val (.int ((((p1 + p2) + p3) - (own_f1 (own_f1 p1 p2) p3)) - (own_f2 (own_f2 p1 p2) p3))), .val (.int (1 : Int32)), .val (.int (1 : Int32))] [(.int (1 : Int32))])) _
        exact retN X23 hx (t := .boolean) Bd.returns (by simp) (hb hby at_115) hr
      · show Q0 n0 _ T23.heap _
        rw [e23]
        exact ⟨rfl, N23⟩
    · have pre26 : ∀ t, Steps p.tables e below (T23.setTop (mkF m 85 #[.val (.int p1), .val (.int p2), .val (.int p3), .val (.int (own_f1 (own_f1 p1 p2) p3)), .val (.int (own_f2 (own_f2 p1 p2) p3)), .val (.int ((((p1 + p2) + p3) - (own_f1 (own_f1 p1 p2) p3)) - (own_f2 (own_f2 p1 p2) p3))), .val (.int (1 : Int32)), .unset] [])) t → Steps p.tables e below (s₁.setTop (entryFrame m #[(.int p1), (.int p2), (.int p3)] maxLocals)) t := by
        intro t kt
        refine pre23 t ?_
        show Steps p.tables e below (T23.setTop (mkF m 82 #[.val (.int p1), .val (.int p2), .val (.int p3), .val (.int (own_f1 (own_f1 p1 p2) p3)), .val (.int (own_f2 (own_f2 p1 p2) p3)), .val (.int ((((p1 + p2) + p3) - (own_f1 (own_f1 p1 p2) p3)) - (own_f2 (own_f2 p1 p2) p3))), .val (.int (1 : Int32)), .unset] [(.int (own_f3 (own_f2 (own_f2 p1 p2) p3)))])) _
        refine XS.ifNo X23.here hx rfl (hb hby at_82) rfl ((if0 _ _).trans (feq hc82).1) ?_
        exact kt
      have pre27 : ∀ t, Steps p.tables e below (T23.setTop (mkF m 87 #[.val (.int p1), .val (.int p2), .val (.int p3), .val (.int (own_f1 (own_f1 p1 p2) p3)), .val (.int (own_f2 (own_f2 p1 p2) p3)), .val (.int ((((p1 + p2) + p3) - (own_f1 (own_f1 p1 p2) p3)) - (own_f2 (own_f2 p1 p2) p3))), .val (.int (1 : Int32)), .unset] [(.int ((((p1 + p2) + p3) - (own_f1 (own_f1 p1 p2) p3)) - (own_f2 (own_f2 p1 p2) p3)))])) t → Steps p.tables e below (s₁.setTop (entryFrame m #[(.int p1), (.int p2), (.int p3)] maxLocals)) t := by
        intro t kt
        refine pre26 t ?_
        show Steps p.tables e below (T23.setTop (mkF m 85 #[.val (.int p1), .val (.int p2), .val (.int p3), .val (.int (own_f1 (own_f1 p1 p2) p3)), .val (.int (own_f2 (own_f2 p1 p2) p3)), .val (.int ((((p1 + p2) + p3) - (own_f1 (own_f1 p1 p2) p3)) - (own_f2 (own_f2 p1 p2) p3))), .val (.int (1 : Int32)), .unset] [])) _
        refine XS.iload X23.here hx rfl (hb hby at_85) rfl ?_
        exact kt
      obtain ⟨_, _, ⟨T28, L28, k28, n28⟩, -, X28, ⟨Lc28, hQ28, l28, y28, z28⟩, st28⟩ := Jvm.LawKit.callS X23 hx (y := (⟨"com/example/cormorant/cormorant/job/CallHosts", "isPort", "(I)Z"⟩ : MethodName)) hown (mvT hZ (hw _ (List.mem_of_getElem? (i := 7) rfl))) (mvT hZ (hw _ (List.mem_of_getElem? (i := 8) rfl))) (mvT hZ (hw _ (List.mem_of_getElem? (i := 9) rfl))) (mvT hZ (hw _ (List.mem_of_getElem? (i := 10) rfl))) (by decide) (backOf (W := 0) (rm3 l Z a0 hw [] ((((p1 + p2) + p3) - (own_f1 (own_f1 p1 p2) p3)) - (own_f2 (own_f2 p1 p2) p3)) h0 n0) hZ (hw _ (List.mem_of_getElem? (i := 10) rfl)) (hw _ (List.mem_of_getElem? (i := 9) rfl)) (by decide) (by decide)) (g := (mkF m 87 #[.val (.int p1), .val (.int p2), .val (.int p3), .val (.int (own_f1 (own_f1 p1 p2) p3)), .val (.int (own_f2 (own_f2 p1 p2) p3)), .val (.int ((((p1 + p2) + p3) - (own_f1 (own_f1 p1 p2) p3)) - (own_f2 (own_f2 p1 p2) p3))), .val (.int (1 : Int32)), .unset] [(.int ((((p1 + p2) + p3) - (own_f1 (own_f1 p1 p2) p3)) - (own_f2 (own_f2 p1 p2) p3)))])) rfl (by rw [hml]; rfl) (argsL := [(.int ((((p1 + p2) + p3) - (own_f1 (own_f1 p1 p2) p3)) - (own_f2 (own_f2 p1 p2) p3)))]) (rest := []) (lenOf pd_1 rfl) rfl (by show 2 * 0 + _ ≤ _; exact Nat.le_of_eq rfl) (hb hby at_87) (fun _ _ => ⟨rfl, e23, (by decide : 0 + 0 ≤ _), (by decide : 0 + 0 ≤ _)⟩)
      dsimp only [Pt.U, Pt.locs, Pt.cells, Pt.slots] at X28 l28 y28 z28 st28 hQ28
      subst l28 y28 z28
      obtain ⟨rfl, N28q, e28⟩ := hQ28
      have N28 := Fr.app N23 N28q
      have pre28 : ∀ t, Steps p.tables e below (T28.setTop (mkF m 90 #[.val (.int p1), .val (.int p2), .val (.int p3), .val (.int (own_f1 (own_f1 p1 p2) p3)), .val (.int (own_f2 (own_f2 p1 p2) p3)), .val (.int ((((p1 + p2) + p3) - (own_f1 (own_f1 p1 p2) p3)) - (own_f2 (own_f2 p1 p2) p3))), .val (.int (1 : Int32)), .unset] [(.int (own_f3 ((((p1 + p2) + p3) - (own_f1 (own_f1 p1 p2) p3)) - (own_f2 (own_f2 p1 p2) p3))))])) t → Steps p.tables e below (s₁.setTop (entryFrame m #[(.int p1), (.int p2), (.int p3)] maxLocals)) t := fun t kt => pre27 t (st28 _ kt)
      obtain ⟨v29_0, hv29_0, pre29⟩ : ∃ (v29_0 : Int32), v29_0 = (if (own_f3 ((((p1 + p2) + p3) - (own_f1 (own_f1 p1 p2) p3)) - (own_f2 (own_f2 p1 p2) p3))) = (0 : Int32) then (0 : Int32) else (1 : Int32)) ∧ ∀ t, Steps p.tables e below (T28.setTop (mkF m 98 #[.val (.int p1), .val (.int p2), .val (.int p3), .val (.int (own_f1 (own_f1 p1 p2) p3)), .val (.int (own_f2 (own_f2 p1 p2) p3)), .val (.int ((((p1 + p2) + p3) - (own_f1 (own_f1 p1 p2) p3)) - (own_f2 (own_f2 p1 p2) p3))), .val (.int (1 : Int32)), .unset] [(.int v29_0)])) t → Steps p.tables e below (s₁.setTop (entryFrame m #[(.int p1), (.int p2), (.int p3)] maxLocals)) t := by
        refine ⟨_, rfl, ?_⟩
        intro t kt
        refine pre28 t ?_
        show Steps p.tables e below (T28.setTop (mkF m 90 #[.val (.int p1), .val (.int p2), .val (.int p3), .val (.int (own_f1 (own_f1 p1 p2) p3)), .val (.int (own_f2 (own_f2 p1 p2) p3)), .val (.int ((((p1 + p2) + p3) - (own_f1 (own_f1 p1 p2) p3)) - (own_f2 (own_f2 p1 p2) p3))), .val (.int (1 : Int32)), .unset] [(.int (own_f3 ((((p1 + p2) + p3) - (own_f1 (own_f1 p1 p2) p3)) - (own_f2 (own_f2 p1 p2) p3))))])) _
        by_cases hc90 : (own_f3 ((((p1 + p2) + p3) - (own_f1 (own_f1 p1 p2) p3)) - (own_f2 (own_f2 p1 p2) p3))) = (0 : Int32)
        · (try simp only [if_pos hc90] at kt)
          refine XS.ifYes X28.here hx rfl (pc0 := 90) (pc' := 97) rfl (hb hby at_90) rfl ((if0 _ _).trans (teq hc90).1) (by decide) (by decide) ?_
          show Steps p.tables e below (T28.setTop (mkF m 97 #[.val (.int p1), .val (.int p2), .val (.int p3), .val (.int (own_f1 (own_f1 p1 p2) p3)), .val (.int (own_f2 (own_f2 p1 p2) p3)), .val (.int ((((p1 + p2) + p3) - (own_f1 (own_f1 p1 p2) p3)) - (own_f2 (own_f2 p1 p2) p3))), .val (.int (1 : Int32)), .unset] [])) _
          refine XS.iconst X28.here hx rfl (hb hby at_97) ?_
          exact kt
        · (try simp only [if_neg hc90] at kt)
          refine XS.ifNo X28.here hx rfl (hb hby at_90) rfl ((if0 _ _).trans (feq hc90).1) ?_
          show Steps p.tables e below (T28.setTop (mkF m 93 #[.val (.int p1), .val (.int p2), .val (.int p3), .val (.int (own_f1 (own_f1 p1 p2) p3)), .val (.int (own_f2 (own_f2 p1 p2) p3)), .val (.int ((((p1 + p2) + p3) - (own_f1 (own_f1 p1 p2) p3)) - (own_f2 (own_f2 p1 p2) p3))), .val (.int (1 : Int32)), .unset] [])) _
          refine XS.iconst X28.here hx rfl (hb hby at_93) ?_
          show Steps p.tables e below (T28.setTop (mkF m 94 #[.val (.int p1), .val (.int p2), .val (.int p3), .val (.int (own_f1 (own_f1 p1 p2) p3)), .val (.int (own_f2 (own_f2 p1 p2) p3)), .val (.int ((((p1 + p2) + p3) - (own_f1 (own_f1 p1 p2) p3)) - (own_f2 (own_f2 p1 p2) p3))), .val (.int (1 : Int32)), .unset] [(.int (1 : Int32))])) _
          refine XS.goto X28.here hx rfl (pc0 := 94) (pc' := 98) rfl (hb hby at_94) (by decide) (by decide) ?_
          exact kt
      have pre30 : ∀ t, Steps p.tables e below (T28.setTop (mkF m 107 #[.val (.int p1), .val (.int p2), .val (.int p3), .val (.int (own_f1 (own_f1 p1 p2) p3)), .val (.int (own_f2 (own_f2 p1 p2) p3)), .val (.int ((((p1 + p2) + p3) - (own_f1 (own_f1 p1 p2) p3)) - (own_f2 (own_f2 p1 p2) p3))), .val (.int (1 : Int32)), .val (.int v29_0)] [(.int v29_0)])) t → Steps p.tables e below (s₁.setTop (entryFrame m #[(.int p1), (.int p2), (.int p3)] maxLocals)) t := by
        intro t kt
        refine pre29 t ?_
        show Steps p.tables e below (T28.setTop (mkF m 98 #[.val (.int p1), .val (.int p2), .val (.int p3), .val (.int (own_f1 (own_f1 p1 p2) p3)), .val (.int (own_f2 (own_f2 p1 p2) p3)), .val (.int ((((p1 + p2) + p3) - (own_f1 (own_f1 p1 p2) p3)) - (own_f2 (own_f2 p1 p2) p3))), .val (.int (1 : Int32)), .unset] [(.int v29_0)])) _
        refine XS.istore X28.here hx rfl (hb hby at_98) rfl (l' := #[.val (.int p1), .val (.int p2), .val (.int p3), .val (.int (own_f1 (own_f1 p1 p2) p3)), .val (.int (own_f2 (own_f2 p1 p2) p3)), .val (.int ((((p1 + p2) + p3) - (own_f1 (own_f1 p1 p2) p3)) - (own_f2 (own_f2 p1 p2) p3))), .val (.int (1 : Int32)), .val (.int v29_0)]) rfl ?_
        show Steps p.tables e below (T28.setTop (mkF m 100 #[.val (.int p1), .val (.int p2), .val (.int p3), .val (.int (own_f1 (own_f1 p1 p2) p3)), .val (.int (own_f2 (own_f2 p1 p2) p3)), .val (.int ((((p1 + p2) + p3) - (own_f1 (own_f1 p1 p2) p3)) - (own_f2 (own_f2 p1 p2) p3))), .val (.int (1 : Int32)), .val (.int v29_0)] [])) _
        refine XS.iload X28.here hx rfl (hb hby at_100) rfl ?_
        show Steps p.tables e below (T28.setTop (mkF m 102 #[.val (.int p1), .val (.int p2), .val (.int p3), .val (.int (own_f1 (own_f1 p1 p2) p3)), .val (.int (own_f2 (own_f2 p1 p2) p3)), .val (.int ((((p1 + p2) + p3) - (own_f1 (own_f1 p1 p2) p3)) - (own_f2 (own_f2 p1 p2) p3))), .val (.int (1 : Int32)), .val (.int v29_0)] [(.int (1 : Int32))])) _
        refine XS.ifNo X28.here hx rfl (hb hby at_102) rfl ((if0 _ _).trans (feq (by decide)).1) ?_
        show Steps p.tables e below (T28.setTop (mkF m 105 #[.val (.int p1), .val (.int p2), .val (.int p3), .val (.int (own_f1 (own_f1 p1 p2) p3)), .val (.int (own_f2 (own_f2 p1 p2) p3)), .val (.int ((((p1 + p2) + p3) - (own_f1 (own_f1 p1 p2) p3)) - (own_f2 (own_f2 p1 p2) p3))), .val (.int (1 : Int32)), .val (.int v29_0)] [])) _
        refine XS.iload X28.here hx rfl (hb hby at_105) rfl ?_
        exact kt
      obtain ⟨v31_0, hv31_0, pre31⟩ : ∃ (v31_0 : Int32), v31_0 = (if v29_0 = (0 : Int32) then (0 : Int32) else (1 : Int32)) ∧ ∀ t, Steps p.tables e below (T28.setTop (mkF m 115 #[.val (.int p1), .val (.int p2), .val (.int p3), .val (.int (own_f1 (own_f1 p1 p2) p3)), .val (.int (own_f2 (own_f2 p1 p2) p3)), .val (.int ((((p1 + p2) + p3) - (own_f1 (own_f1 p1 p2) p3)) - (own_f2 (own_f2 p1 p2) p3))), .val (.int (1 : Int32)), .val (.int v29_0)] [(.int v31_0)])) t → Steps p.tables e below (s₁.setTop (entryFrame m #[(.int p1), (.int p2), (.int p3)] maxLocals)) t := by
        refine ⟨_, rfl, ?_⟩
        intro t kt
        refine pre30 t ?_
        show Steps p.tables e below (T28.setTop (mkF m 107 #[.val (.int p1), .val (.int p2), .val (.int p3), .val (.int (own_f1 (own_f1 p1 p2) p3)), .val (.int (own_f2 (own_f2 p1 p2) p3)), .val (.int ((((p1 + p2) + p3) - (own_f1 (own_f1 p1 p2) p3)) - (own_f2 (own_f2 p1 p2) p3))), .val (.int (1 : Int32)), .val (.int v29_0)] [(.int v29_0)])) _
        by_cases hc107 : v29_0 = (0 : Int32)
        · (try simp only [if_pos hc107] at kt)
          refine XS.ifYes X28.here hx rfl (pc0 := 107) (pc' := 114) rfl (hb hby at_107) rfl ((if0 _ _).trans (teq hc107).1) (by decide) (by decide) ?_
          show Steps p.tables e below (T28.setTop (mkF m 114 #[.val (.int p1), .val (.int p2), .val (.int p3), .val (.int (own_f1 (own_f1 p1 p2) p3)), .val (.int (own_f2 (own_f2 p1 p2) p3)), .val (.int ((((p1 + p2) + p3) - (own_f1 (own_f1 p1 p2) p3)) - (own_f2 (own_f2 p1 p2) p3))), .val (.int (1 : Int32)), .val (.int v29_0)] [])) _
          refine XS.iconst X28.here hx rfl (hb hby at_114) ?_
          exact kt
        · (try simp only [if_neg hc107] at kt)
          refine XS.ifNo X28.here hx rfl (hb hby at_107) rfl ((if0 _ _).trans (feq hc107).1) ?_
          show Steps p.tables e below (T28.setTop (mkF m 110 #[.val (.int p1), .val (.int p2), .val (.int p3), .val (.int (own_f1 (own_f1 p1 p2) p3)), .val (.int (own_f2 (own_f2 p1 p2) p3)), .val (.int ((((p1 + p2) + p3) - (own_f1 (own_f1 p1 p2) p3)) - (own_f2 (own_f2 p1 p2) p3))), .val (.int (1 : Int32)), .val (.int v29_0)] [])) _
          refine XS.iconst X28.here hx rfl (hb hby at_110) ?_
          show Steps p.tables e below (T28.setTop (mkF m 111 #[.val (.int p1), .val (.int p2), .val (.int p3), .val (.int (own_f1 (own_f1 p1 p2) p3)), .val (.int (own_f2 (own_f2 p1 p2) p3)), .val (.int ((((p1 + p2) + p3) - (own_f1 (own_f1 p1 p2) p3)) - (own_f2 (own_f2 p1 p2) p3))), .val (.int (1 : Int32)), .val (.int v29_0)] [(.int (1 : Int32))])) _
          refine XS.goto X28.here hx rfl (pc0 := 111) (pc' := 115) rfl (hb hby at_111) (by decide) (by decide) ?_
          exact kt
      have hfin : v31_0 = 1 := by
        have q := own_main p1 p2 p3 hc74 hc82
        simp [hv31_0, hv29_0, q]
      obtain ⟨fs, hr, hrun, hended, hW, hsame⟩ := X28.leave (v := some (.int (1 : Int32))) (fun h => by rw [Bd.returns] at h; cases h)
      refine ⟨_, _, pre31 _ ?_, hrun, hended, _, _, rfl, ?_, ⟨_, rfl⟩, hW, hsame.mono (by decide) (by decide)⟩
      · show Steps p.tables e below (T28.setTop (mkF m 115 #[.val (.int p1), .val (.int p2), .val (.int p3), .val (.int (own_f1 (own_f1 p1 p2) p3)), .val (.int (own_f2 (own_f2 p1 p2) p3)), .val (.int ((((p1 + p2) + p3) - (own_f1 (own_f1 p1 p2) p3)) - (own_f2 (own_f2 p1 p2) p3))), .val (.int (1 : Int32)), .val (.int v29_0)] [(.int v31_0)])) _
        rw [hfin]
        exact retN X28 hx (t := .boolean) Bd.returns (by simp) (hb hby at_115) hr
      · show Q0 n0 _ T28.heap _
        rw [e28]
        exact ⟨rfl, N28⟩
set_option maxRecDepth 65536 in
set_option maxHeartbeats 40000000 in
theorem comes_1 {Post : Tables → Env → Array Value → State → Outcome → State → Prop} (hpost : ∀ tb e args s v u, (limb_1_1.after args s (.returned v) u = true ∧ limb_1_2.after args s (.returned v) u = true ∧ True) → FrameEnd s (.returned v) u (Jvm.fieldLocs frame_1_writes args s ++ Jvm.arrayLocs frame_1_arrays args s ++ Jvm.staticLocs frame_1_statics s) 0 0 → Post tb e args s (.returned v) u) :
    ArmFor flags0 classFile x code maxLocals ret World_1 tables_1 room_1 Calls_1 rest_1 Pre_1 Post := by
  intro l hfl _ _ p e ha hc hk s m args below hf hA hF happ hP
  obtain ⟨hcalls, hrest, hpre⟩ := hP
  obtain ⟨-, -, -, hnamed, -, -, -, hat⟩ := (Spec.applies_iff hf).mp happ
  obtain ⟨hg, hn⟩ := and_e (Cond.before_iff.mp (show (Jvm.Cond.and given_1 narrow_1).before args s = true from hpre))
  obtain ⟨g1, g2⟩ := and_e hg
  obtain ⟨g3, g4⟩ := and_e g2
  obtain ⟨g5, g6⟩ := and_e g4
  obtain ⟨w0, w1, w2, rfl⟩ : ∃ w0 w1 w2 : Value, args = #[w0, w1, w2] := by
    have hs : args.size = 3 := by simpa [Cond.value, given_1] using g1
    obtain ⟨L⟩ := args
    match L, hs with
    | [w0, w1, w2], _ => exact ⟨w0, w1, w2, rfl⟩
  have hw := fun d (hd : d ∈ tables_1) => atoms_spec (ws := Jvm.Cond.code x code maxLocals ret :: tables_1) hat d (List.mem_cons_of_mem _ hd)
  have hfit : Fit s := fun {y c} hc i hi => by
    obtain ⟨ha, rfl⟩ := Array.getElem?_eq_some_iff.mp hc
    have q := List.all_eq_true.mp ((Array.all_eq_true_iff_forall_mem.mp hF) _ (Array.getElem_mem ha)) i (List.mem_range.mpr hi)
    simpa [Array.getElem?_eq_getElem hi] using q
  obtain ⟨i0, ei0⟩ := is_v g3
  obtain rfl : w0 = (.int i0) := Option.some.inj ei0
  obtain ⟨i1, ei1⟩ := is_v g5
  obtain rfl : w1 = (.int i1) := Option.some.inj ei1
  obtain ⟨i2, ei2⟩ := is_v g6
  obtain rfl : w2 = (.int i2) := Option.some.inj ei2
  obtain ⟨n, o, h1, h2, h3, _, L, rfl, ⟨rfl, N⟩, hq⟩ := rm0 l s _ hw tables_1 i0 i1 i2  s.heap s.heap.size (Nat.le_refl _)  p e ha hc hk s m _ below hf ((Spec.applies_iff_loose hf).mp happ).1 ⟨rfl, State.Warmed39.refl s, rfl⟩ trivial
  refine ⟨n, _, h1, h2, h3, hpost _ _ _ _ _ _ ⟨Cond.after_iff.mpr rfl, Cond.after_iff.mpr (eq_i res_at (Term.int_eval (1)) rfl), trivial⟩ ⟨hq.1, hq.2.1, (hq.2.2.sift fun y hy => Or.inr (N y hy)).mono (by decide) (by decide)⟩⟩
theorem main_1_1 : Claimed_1_1 := comes_1 fun _ _ _ _ _ _ h hF => ⟨h.1, hF⟩
theorem main_1_2 : Claimed_1_2 := comes_1 fun _ _ _ _ _ _ h hF => ⟨h.2.1, hF⟩
end Jvm.Pilot.@@N@@
namespace Jvm.Pilot.@@N@@
open Jvm Jvm.ClassFile Sem Op Lib Jvm.Free Jvm.Stand Jvm.Pilot.@@N@@.Jvm.D
/-! MADE BY PROGRAM (witnessworld.py) out of the Statement's table words and the real class files: 11 classes; the members and pool entries that the words name. The judged class is class 1, her method 1. -/
namespace start1
open Jvm.ClassFile
def u (s : String) : CpInfo := .utf8 (stringToUtf16 s)
/-- a pool by its gaps: so many unusable entries, then the entry; so many at the end -/
def gap : Nat → List CpInfo → List CpInfo
  | 0, r => r
  | n + 1, r => .unusable :: gap n r
def poolList (es : List (Nat × CpInfo)) (last : Nat) : List CpInfo := es.foldr (fun e r => gap e.1 (e.2 :: r)) (gap last [])
def pool (es : List (Nat × CpInfo)) (last : Nat) : Array CpInfo := ⟨poolList es last⟩
def fileOf (pool : Array CpInfo) (this : Nat) (attrs : Array Attribute := #[]) (ms : Array MethodInfo := #[]) (fl : Nat := 33) (sup : Nat := 0) (ifs : Array Nat := #[]) (fds : Array FieldInfo := #[]) : ClassFile where
  minorVersion := 0
  majorVersion := 65
  constantPool := pool
  accessFlags := fl
  thisClass := this
  superClass := sup
  interfaces := ifs
  fields := fds
  methods := ms
  attributes := attrs
def plain (name : String) (sup : Option ClassId) : Class where
  name := name
  kind := .ordinary
  loader := none
  accessFlags := 33
  super := sup
  interfaces := #[]
  cf := none
  fields := #[]
  methods := #[]
  instanceTypes := #[]
  staticTypes := #[]
  resolved := #[]
  callSites := []
  init := .initialized
  statics := none
  mirror := none

def pool0 : Array CpInfo := pool [(5, u "<init>"), (0, u "()V"), (1, .class_ 10), (1, u "java/lang/Object")] 113

def k0m0 : Method := { name := "<init>", desc := "()V", sig := { parameters := [], returnType := none }, accessFlags := 1, code := none }
/-- java/lang/Object -/
def k0 : Class := { plain "java/lang/Object" none with
  accessFlags := 33
  interfaces := #[]
  cf := some (fileOf pool0 8 #[] #[{ accessFlags := 1, nameIndex := 5, descriptorIndex := 6, attributes := #[] }] 33 0 #[] #[])
  fields := #[]
  methods := #[k0m0]
  instanceTypes := #[]
  staticTypes := #[]
  resolved := Array.replicate 124 none
  statics := none }

def pool1 : Array CpInfo := pool [(2, .class_ 4), (1, u "java/lang/Object"), (0, u "<init>"), (0, u "()V"), (0, .methodref 8 9), (0, .class_ 10), (0, .nameAndType 11 12), (0, u "java/lang/Math"), (0, u "min"), (0, u "(II)I"), (0, .methodref 8 14), (0, .nameAndType 15 12), (0, u "max"), (0, .methodref 17 18), (0, .class_ 19), (0, .nameAndType 20 21), (0, u "com/example/cormorant/cormorant/job/CallHosts"), (0, u "isPort"), (0, u "(I)Z"), (0, .integer 65535), (0, .integer 65536), (0, .class_ 25), (0, u "com/example/cormorant/cormorant/job/CallHostsIsPortPinLaw"), (2, u "law"), (0, u "(III)Z")] 3

def k1m0 : Method := { name := "<init>", desc := "()V", sig := { parameters := [], returnType := none }, accessFlags := 1, code := none }
def k1c1 : Code := { maxStack := 2, maxLocals := 8, code := code, exceptionTable := #[], attributes := #[] }
def k1m1 : Method := { name := "law", desc := "(III)Z", sig := { parameters := [.int, .int, .int], returnType := some .boolean }, accessFlags := 9, code := some k1c1 }
/-- com/example/cormorant/cormorant/job/CallHostsIsPortPinLaw -/
def k1 : Class := { plain "com/example/cormorant/cormorant/job/CallHostsIsPortPinLaw" (some 0) with
  accessFlags := 49
  interfaces := #[]
  cf := some (fileOf pool1 24 #[] #[{ accessFlags := 1, nameIndex := 5, descriptorIndex := 6, attributes := #[] }, { accessFlags := 9, nameIndex := 28, descriptorIndex := 29, attributes := #[] }] 49 2 #[] #[])
  fields := #[]
  methods := #[k1m0, k1m1]
  instanceTypes := #[]
  staticTypes := #[]
  resolved := Array.replicate 33 none
  statics := none }

def pool2 : Array CpInfo := pool [(1, .class_ 2), (0, u "java/lang/Math"), (1, .class_ 6), (1, u "java/lang/Object"), (0, u "<init>"), (0, u "()V"), (89, .class_ 100), (1, u "java/lang/Math$RandomNumberGeneratorHolder"), (71, u "negativeZeroFloatBits"), (0, u "J"), (2, u "negativeZeroDoubleBits"), (21, u "max"), (2, u "min"), (43, u "$assertionsDisabled"), (0, u "Z"), (88, u "(II)I"), (2, u "twoToTheDoubleScaleDown"), (0, u "D"), (4, u "twoToTheDoubleScaleUp"), (9, u "E"), (3, u "PI"), (2, u "TAU"), (2, u "DEGREES_TO_RADIANS"), (0, u "RADIANS_TO_DEGREES")] 94

def k2m0 : Method := { name := "<init>", desc := "()V", sig := { parameters := [], returnType := none }, accessFlags := 2, code := none }
def k2c1 : Code := { maxStack := 2, maxLocals := 2, code := jdk_29_method_65_code, exceptionTable := #[], attributes := #[] }
def k2m1 : Method := { name := "max", desc := "(II)I", sig := { parameters := [.int, .int], returnType := some .int }, accessFlags := 9, code := some k2c1 }
def k2c2 : Code := { maxStack := 2, maxLocals := 2, code := jdk_29_method_69_code, exceptionTable := #[], attributes := #[] }
def k2m2 : Method := { name := "min", desc := "(II)I", sig := { parameters := [.int, .int], returnType := some .int }, accessFlags := 9, code := some k2c2 }
/-- java/lang/Math -/
def k2 : Class := { plain "java/lang/Math" (some 0) with
  accessFlags := 49
  interfaces := #[]
  cf := some (fileOf pool2 1 #[.nestMembers #[98]] #[{ accessFlags := 2, nameIndex := 7, descriptorIndex := 8, attributes := #[] }, { accessFlags := 9, nameIndex := 198, descriptorIndex := 335, attributes := #[] }, { accessFlags := 9, nameIndex := 201, descriptorIndex := 335, attributes := #[] }] 49 4 #[] #[{ accessFlags := 25, nameIndex := 354, descriptorIndex := 339, attributes := #[] }, { accessFlags := 25, nameIndex := 358, descriptorIndex := 339, attributes := #[] }, { accessFlags := 25, nameIndex := 361, descriptorIndex := 339, attributes := #[] }, { accessFlags := 26, nameIndex := 364, descriptorIndex := 339, attributes := #[] }, { accessFlags := 26, nameIndex := 365, descriptorIndex := 339, attributes := #[] }, { accessFlags := 26, nameIndex := 172, descriptorIndex := 173, attributes := #[] }, { accessFlags := 26, nameIndex := 176, descriptorIndex := 173, attributes := #[] }, { accessFlags := 8, nameIndex := 344, descriptorIndex := 339, attributes := #[] }, { accessFlags := 8, nameIndex := 338, descriptorIndex := 339, attributes := #[] }, { accessFlags := 4120, nameIndex := 245, descriptorIndex := 246, attributes := #[] }])
  fields := #[{ name := "E", type := .double, accessFlags := 25, slot := 0, constantValue := 0 }, { name := "PI", type := .double, accessFlags := 25, slot := 1, constantValue := 0 }, { name := "TAU", type := .double, accessFlags := 25, slot := 2, constantValue := 0 }, { name := "DEGREES_TO_RADIANS", type := .double, accessFlags := 26, slot := 3, constantValue := 0 }, { name := "RADIANS_TO_DEGREES", type := .double, accessFlags := 26, slot := 4, constantValue := 0 }, { name := "negativeZeroFloatBits", type := .long, accessFlags := 26, slot := 5, constantValue := 0 }, { name := "negativeZeroDoubleBits", type := .long, accessFlags := 26, slot := 6, constantValue := 0 }, { name := "twoToTheDoubleScaleUp", type := .double, accessFlags := 8, slot := 7, constantValue := 0 }, { name := "twoToTheDoubleScaleDown", type := .double, accessFlags := 8, slot := 8, constantValue := 0 }, { name := "$assertionsDisabled", type := .boolean, accessFlags := 4120, slot := 9, constantValue := 0 }]
  methods := #[k2m0, k2m1, k2m2]
  instanceTypes := #[]
  staticTypes := #[.double, .double, .double, .double, .double, .long, .long, .double, .double, .boolean]
  resolved := Array.replicate 460 none
  statics := none }

def pool3 : Array CpInfo := pool [(2, .class_ 4), (1, u "java/lang/Object"), (0, u "<init>"), (0, u "()V"), (0, .class_ 8), (0, u "java/lang/Record")] 13

def k3m0 : Method := { name := "<init>", desc := "()V", sig := { parameters := [], returnType := none }, accessFlags := 4, code := none }
/-- java/lang/Record -/
def k3 : Class := { plain "java/lang/Record" (some 0) with
  accessFlags := 1057
  interfaces := #[]
  cf := some (fileOf pool3 7 #[] #[{ accessFlags := 4, nameIndex := 5, descriptorIndex := 6, attributes := #[] }] 1057 2 #[] #[])
  fields := #[]
  methods := #[k3m0]
  instanceTypes := #[]
  staticTypes := #[]
  resolved := Array.replicate 22 none
  statics := none }

def pool4 : Array CpInfo := pool [(2, .class_ 4), (1, u "java/lang/Record"), (29, .class_ 36), (1, u "com/example/cormorant/cormorant/job/CallHosts"), (0, u "entries"), (0, u "Ljava/util/Set;"), (45, u "isPort"), (0, u "(I)Z"), (37, .integer 65535), (17, u "NONE"), (0, u "Lcom/example/cormorant/cormorant/job/CallHosts;"), (2, u "MAX_PORT"), (0, u "I"), (1, u "NOT_HOST_PORT"), (0, u "Ljava/lang/String;")] 54

def k4c0 : Code := { maxStack := 2, maxLocals := 1, code := prog_8_method_4_code, exceptionTable := #[], attributes := #[] }
def k4m0 : Method := { name := "isPort", desc := "(I)Z", sig := { parameters := [.int], returnType := some .boolean }, accessFlags := 8, code := some k4c0 }
/-- com/example/cormorant/cormorant/job/CallHosts -/
def k4 : Class := { plain "com/example/cormorant/cormorant/job/CallHosts" (some 3) with
  accessFlags := 49
  interfaces := #[]
  cf := some (fileOf pool4 34 #[] #[{ accessFlags := 8, nameIndex := 84, descriptorIndex := 85, attributes := #[] }] 49 2 #[] #[{ accessFlags := 18, nameIndex := 37, descriptorIndex := 38, attributes := #[] }, { accessFlags := 25, nameIndex := 141, descriptorIndex := 142, attributes := #[] }, { accessFlags := 26, nameIndex := 145, descriptorIndex := 146, attributes := #[] }, { accessFlags := 26, nameIndex := 148, descriptorIndex := 149, attributes := #[] }])
  fields := #[{ name := "entries", type := (.object "java/util/Set"), accessFlags := 18, slot := 0, constantValue := 0 }, { name := "NONE", type := (.object "com/example/cormorant/cormorant/job/CallHosts"), accessFlags := 25, slot := 0, constantValue := 0 }, { name := "MAX_PORT", type := .int, accessFlags := 26, slot := 1, constantValue := 0 }, { name := "NOT_HOST_PORT", type := (.object "java/lang/String"), accessFlags := 26, slot := 2, constantValue := 0 }]
  methods := #[k4m0]
  instanceTypes := #[(.object "java/util/Set")]
  staticTypes := #[(.object "com/example/cormorant/cormorant/job/CallHosts"), .int, (.object "java/lang/String")]
  resolved := Array.replicate 204 none
  statics := none }

def pool5 : Array CpInfo := pool [(1, u "java/lang/Cloneable"), (0, .class_ 1), (0, u "java/lang/Object"), (0, .class_ 3)] 3

/-- java/lang/Cloneable -/
def k5 : Class := { plain "java/lang/Cloneable" (some 0) with
  accessFlags := 1537
  interfaces := #[]
  cf := some (fileOf pool5 2 #[] #[] 1537 4 #[] #[])
  fields := #[]
  methods := #[]
  instanceTypes := #[]
  staticTypes := #[]
  resolved := Array.replicate 8 none
  statics := none }

def pool6 : Array CpInfo := pool [(1, u "java/io/Serializable"), (0, .class_ 1), (0, u "java/lang/Object"), (0, .class_ 3)] 3

/-- java/io/Serializable -/
def k6 : Class := { plain "java/io/Serializable" (some 0) with
  accessFlags := 1537
  interfaces := #[]
  cf := some (fileOf pool6 2 #[] #[] 1537 4 #[] #[])
  fields := #[]
  methods := #[]
  instanceTypes := #[]
  staticTypes := #[]
  resolved := Array.replicate 8 none
  statics := none }

/-- the primitive byte -/
def k7 : Class := { plain "byte" none with kind := .primitive 'B', accessFlags := 0x411 }
/-- [B -/
def k8 : Class := { plain "[B" (some 0) with kind := .array 7 .byte, interfaces := #[5, 6], accessFlags := 1041 }

/-- the primitive int -/
def k9 : Class := { plain "int" none with kind := .primitive 'I', accessFlags := 0x411 }
/-- [I -/
def k10 : Class := { plain "[I" (some 0) with kind := .array 9 .int, interfaces := #[5, 6], accessFlags := 1041 }

def heap : Heap := #[]
def classes : Array Class := #[k0, k1, k2, k3, k4, k5, k6, k7, k8, k9, k10]
def interned : List (Array UInt16 × Addr) := []
def slotsUsed : Nat := 0
def theMethod : MethodId := ⟨1, 1⟩
def args0 : Array Value := #[.int 5, .int 6, .int 7]
def aboutOver (below : List Frame) : State where
  vm := { classes := classes, interned := interned.toArray }
  heap := heap
  slotsUsed := slotsUsed
  threads := #[{ frames := .invoking theMethod args0 :: below }]
def below0 : List Frame := [.native { method := ⟨0, 0⟩, args := #[] }]
def about1 : State := aboutOver below0
def p0 : Program := .bare "" "" ""
def e0 : Env := launch0.env 0 0 0
theorem w_frames : about1.frames = Frame.invoking theMethod args0 :: below0 := rfl
set_option maxRecDepth 65536 in
theorem w_args : argsFit about1.vm theMethod args0 = true := by decide +kernel
set_option maxRecDepth 65536 in
theorem w_heap : heapFits about1 = true := by decide +kernel
set_option maxRecDepth 65536 in
theorem w_runnable : about1.curStatus? = some .runnable := by decide +kernel
set_option maxRecDepth 65536 in
theorem w_alone : about1.alone = true := by decide +kernel
set_option maxRecDepth 65536 in
theorem w_named : about1.methodNamed? x = some theMethod := by decide +kernel
set_option maxRecDepth 65536 in
theorem w_hears : about1.hears theMethod below0 = true := by decide +kernel
set_option maxRecDepth 65536 in
theorem w_ripe : about1.ripe theMethod args0 below0 = true := by decide +kernel
theorem w_running : about1.status = .running := rfl
set_option maxRecDepth 65536 in
theorem w_room : about1.hasRoom e0.platform room_1 = true :=
  launch0.hasRoom_least _ room_1 (by decide +kernel) (by decide +kernel) (by decide +kernel) (by decide +kernel) (by decide +kernel) (by decide +kernel)
theorem allAtoms_all (ts : List Jvm.Cond) (a : Array Jvm.Value) (st : Jvm.State) : (allAtoms ts).before a st = ts.all (fun c => c.before a st) := by
  induction ts with
  | nil => rfl
  | cons c t ih =>
    show (Jvm.Cond.and c (allAtoms t)).before a st = _
    rw [Jvm.Cond.before_and, ih, List.all_cons]
def words1 : List Jvm.Cond := Jvm.Cond.code x code maxLocals ret :: tables_1
/-- a 'code' word, met by the world's own term for the bytes: nothing is compared byte by byte -/
theorem code_word {y : MethodName} {bytes : ByteArray} {mx : Nat} {rt : Option FieldType} {a : Array Value} {s : State} {m : MethodId} {meth : Method} {c : Code} (h1 : s.methodNamed? y = some m) (h2 : s.vm.method? m = some meth) (h3 : meth.code = some c) (h4 : c.code = bytes)
    (h5 : (c.maxLocals == mx && c.exceptionTable.isEmpty && decide (c.maxStack ≤ mostOperands) && decide (meth.sig.returnType = rt) && !meth.locks && decide (parseMethodDescriptor y.desc = some meth.sig)) = true) : (Jvm.Cond.code y bytes mx rt).before a s = true := by
  simp only [Bool.and_eq_true, beq_iff_eq, Bool.not_eq_true', decide_eq_true_eq] at h5
  obtain ⟨⟨⟨⟨⟨g1, g2⟩, g3⟩, g4⟩, g5⟩, g6⟩ := h5
  simp [Cond.before, Cond.holds, Cond.value, h1, h2, h3, h4, g1, g2, g3, g4, g5, g6]
def isCode : Jvm.Cond → Bool
  | .code _ _ _ _ => true
  | _ => false
theorem all_split {L : List Jvm.Cond} {P : Jvm.Cond → Bool} (h1 : L.all (fun c => isCode c || P c) = true) (h2 : ∀ c ∈ L.filter isCode, P c = true) : L.all P = true := by
  refine List.all_eq_true.mpr fun c hc => ?_
  have h := List.all_eq_true.mp h1 c hc
  rcases Bool.eq_false_or_eq_true (isCode c) with hi | hi
  · exact h2 c (List.mem_filter.mpr ⟨hc, hi⟩)
  · simpa [hi] using h
set_option maxRecDepth 65536 in
theorem w_c0 : (Jvm.Cond.code x code maxLocals ret).before args0 about1 = true := code_word (m := ⟨1, 1⟩) (meth := k1m1) (c := k1c1) (by decide +kernel) rfl rfl rfl (by decide +kernel)
set_option maxRecDepth 65536 in
theorem w_c1 : (Jvm.Cond.code ({ cls := "java/lang/Math", name := "min", desc := "(II)I" } : Jvm.MethodName) jdk_29_method_69_code (2 : Nat) (Option.some Jvm.ClassFile.FieldType.int)).before args0 about1 = true := code_word (m := ⟨2, 2⟩) (meth := k2m2) (c := k2c2) (by decide +kernel) rfl rfl rfl (by decide +kernel)
set_option maxRecDepth 65536 in
theorem w_c2 : (Jvm.Cond.code ({ cls := "java/lang/Math", name := "max", desc := "(II)I" } : Jvm.MethodName) jdk_29_method_65_code (2 : Nat) (Option.some Jvm.ClassFile.FieldType.int)).before args0 about1 = true := code_word (m := ⟨2, 1⟩) (meth := k2m1) (c := k2c1) (by decide +kernel) rfl rfl rfl (by decide +kernel)
set_option maxRecDepth 65536 in
theorem w_c3 : (Jvm.Cond.code ({ cls := "com/example/cormorant/cormorant/job/CallHosts", name := "isPort", desc := "(I)Z" } : Jvm.MethodName) prog_8_method_4_code (1 : Nat) (Option.some Jvm.ClassFile.FieldType.boolean)).before args0 about1 = true := code_word (m := ⟨4, 0⟩) (meth := k4m0) (c := k4c0) (by decide +kernel) rfl rfl rfl (by decide +kernel)
def codes1 : List Jvm.Cond := [Jvm.Cond.code x code maxLocals ret, Jvm.Cond.code ({ cls := "java/lang/Math", name := "min", desc := "(II)I" } : Jvm.MethodName) jdk_29_method_69_code (2 : Nat) (Option.some Jvm.ClassFile.FieldType.int), Jvm.Cond.code ({ cls := "java/lang/Math", name := "max", desc := "(II)I" } : Jvm.MethodName) jdk_29_method_65_code (2 : Nat) (Option.some Jvm.ClassFile.FieldType.int), Jvm.Cond.code ({ cls := "com/example/cormorant/cormorant/job/CallHosts", name := "isPort", desc := "(I)Z" } : Jvm.MethodName) prog_8_method_4_code (1 : Nat) (Option.some Jvm.ClassFile.FieldType.boolean)]
set_option maxRecDepth 65536 in
theorem codes_eq : words1.filter isCode = codes1 := rfl
theorem w_codes : ∀ c ∈ words1.filter isCode, c.before args0 about1 = true := by
  rw [codes_eq]
  intro c hc
  simp only [codes1, List.mem_cons, List.not_mem_nil, or_false] at hc
  rcases hc with rfl | rfl | rfl | rfl
  · exact w_c0
  · exact w_c1
  · exact w_c2
  · exact w_c3
set_option maxRecDepth 65536 in
theorem w_t1 : words1.all (fun c => isCode c || c.before args0 about1) = true := by decide +kernel
theorem w_tables : (allAtoms (Jvm.Cond.code x code maxLocals ret :: tables_1)).before args0 about1 = true := by
  rw [allAtoms_all]
  show words1.all (fun c => c.before args0 about1) = true
  refine all_split ?_ w_codes
  rw [w_t1]
set_option maxRecDepth 65536 in
theorem w_case : (Jvm.Cond.and given_1 narrow_1).before args0 about1 = true := by decide +kernel
theorem w_applies : (headSpec (Jvm.Cond.code x code maxLocals ret :: tables_1) room_1).applies x e0.platform about1 = true :=
  (Spec.applies_iff w_frames).mpr ⟨w_running, w_runnable, w_alone, w_named, w_hears, w_ripe, w_room, w_tables⟩
theorem atStart : AtStart classFile x code maxLocals ret World_1 tables_1 room_1 Calls_1 rest_1 Pre_1 launch0 p0 e0 about1 theMethod args0 below0 :=
  ⟨lists_1, trivial, launch0.admits_env _ _ _, launch0.least_env, fairChoices_fair.cas, fairChoices_fair.clock, w_frames, w_args, w_heap, w_applies, trivial, trivial, w_case⟩
end start1
theorem witness_1 : WitnessClaimed_1 := ⟨start1.p0, start1.e0, start1.about1, start1.theMethod, start1.args0, start1.below0, start1.atStart⟩
end Jvm.Pilot.@@N@@
