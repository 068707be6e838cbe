import JvmDerived
import JvmDerived.Pilot.@@N@@Statement
import JvmDerived.Pilot.@@N@@Code
set_option linter.unusedVariables false
set_option linter.unusedSimpArgs false
@@BLOCK:NumsL.lean.txt@@
namespace Jvm.RoadKit
open Sem ClassFile Op Lib Jvm.Stand Jvm.Free Jvm.LawKit
section New
variable {p : Program} {l : Launch} {e : Env} {R : Room} {s : State} {m : MethodId} {args : Array Value} {below : List Frame} {meth : Method} {c : Code} {T : State} {locs : List Loc} {cells slots : Nat}
theorem retI (X : Stand p l e R s m args below meth c T locs cells slots) (hx : p.tables.exec = Jvm.exec) {pc : Nat} {Ls : Array Slot} {z : Int32} {rest : List Value} (hret : meth.sig.returnType = some .int) (hd : decode c.code pc = .ok (.ireturn, 1)) {fs : List Frame}
    (hl : ∀ (f : JFrame) (acts : List Action), f.method = m → f.locked = none → f.entered = [] → (doReturn e (T.setTop f) acts (some (.int z))).1 = T.setFrames fs) : Steps p.tables e below (T.setTop (mkF m pc Ls (.int z :: rest))) (T.setFrames fs) := by
  have hm' : T.vm.method? m = some meth := X.method'
  have hn : narrow .int (.int z) = .int z := rfl
  show Steps p.tables e below (T.setTop { method := m, pc := pc, locals := Ls, stack := _ :: rest, locked := none }) _
  jvm_step X.here [X.here.top, hx, hd, hm', hret, hn]
  first | (intro acts; rw [hl _ acts rfl rfl rfl]) | rw [hl _ _ rfl rfl rfl]
  exact Steps.refl _
end New
end Jvm.RoadKit
namespace Jvm.Pilot.@@N@@
open Jvm Jvm.ClassFile Sem Op Lib Jvm.Free Jvm.Stand Jvm.LawKit Jvm.RoadKit Bundle Jvm.Pilot.@@N@@.Jvm.D
def own_k2 : String := match (tables_1[2]? : Option Jvm.Cond) with | some (Jvm.Cond.initialized c) => c | _ => ""
theorem pn_0 : plainName own_k2 = true := by first | (simp [plainName, overriddenIn]; done) | decide +kernel
theorem pn_1 : plainName x.cls = true := by first | (simp [plainName, overriddenIn]; done) | decide +kernel
theorem pd_0 : parseMethodDescriptor "(I)I" = some ⟨[.int], some .int⟩ := by decide +kernel
theorem d1_0 : decode prog_41_method_4_code 0 = .ok (.iload_n 0, 1) := by decide +kernel
theorem d1_1 : decode prog_41_method_4_code 1 = .ok (.sipush 165, 3) := by decide +kernel
theorem d1_4 : decode prog_41_method_4_code 4 = .ok (.if_icmp .ne 9, 3) := by decide +kernel
theorem d1_7 : decode prog_41_method_4_code 7 = .ok (.bipush 92, 2) := by decide +kernel
theorem d1_9 : decode prog_41_method_4_code 9 = .ok (.istore_n 1, 1) := by decide +kernel
theorem d1_10 : decode prog_41_method_4_code 10 = .ok (.goto 18, 3) := by decide +kernel
theorem d1_13 : decode prog_41_method_4_code 13 = .ok (.iload_n 0, 1) := by decide +kernel
theorem d1_14 : decode prog_41_method_4_code 14 = .ok (.sipush 8254, 3) := by decide +kernel
theorem d1_17 : decode prog_41_method_4_code 17 = .ok (.if_icmp .ne 9, 3) := by decide +kernel
theorem d1_20 : decode prog_41_method_4_code 20 = .ok (.bipush 126, 2) := by decide +kernel
theorem d1_22 : decode prog_41_method_4_code 22 = .ok (.istore_n 1, 1) := by decide +kernel
theorem d1_23 : decode prog_41_method_4_code 23 = .ok (.goto 5, 3) := by decide +kernel
theorem d1_26 : decode prog_41_method_4_code 26 = .ok (.iconst (-1), 1) := by decide +kernel
theorem d1_27 : decode prog_41_method_4_code 27 = .ok (.istore_n 1, 1) := by decide +kernel
theorem d1_28 : decode prog_41_method_4_code 28 = .ok (.iload_n 1, 1) := by decide +kernel
theorem d1_29 : decode prog_41_method_4_code 29 = .ok (.ireturn, 1) := by decide +kernel
def own_f1_28 (p1 : Int32) (l1 : Int32) : Int32 := l1
def own_f1 (p1 : Int32) : Int32 := (if p1 = (165 : Int32) then (own_f1_28 p1 (92 : Int32)) else (if p1 = (8254 : Int32) then (own_f1_28 p1 (126 : Int32)) else (own_f1_28 p1 (-1 : Int32))))
def Q1 (p1 : Int32) (h0 : Heap) (n0 : Nat) (v : Option Value) (h : Heap) (L : List Loc) : Prop := v = some (.int (own_f1 p1)) ∧ Fr n0 L ∧ h = h0
theorem ef_1 (m : MethodId) (x0 : Int32) : entryFrame m #[(.int x0)] 2 = mkF m 0 #[.val (.int x0), .unset] [] := by first | (simp [entryFrame, mkF, argsToLocals, Value.category]; done) | rfl
set_option maxRecDepth 65536 in
set_option maxHeartbeats 40000000 in
theorem rm1 (l : Launch) (Z : State) (a0 : Array Value) (hw : ∀ d ∈ tables_1, d.before a0 Z = true) (ws : List Jvm.Cond) (p1 : Int32) (h0 : Heap) (n0 : Nat) :
    MetFree l (⟨own_k2, "romanByte", "(I)I"⟩ : MethodName) (head1 (Jvm.Cond.code (⟨own_k2, "romanByte", "(I)I"⟩ : MethodName) prog_41_method_4_code 2 (some .int) :: ws) ({ frames := 0, cells := 0, slots := 0, locals := 0 } : Room)) (fun a U => a = #[(.int p1)] ∧ Z.Warmed39 U.vm ∧ U.heap = h0) (fun _ _ _ _ _ => True) (fun _ U o U' => ∃ v L, o = .returned v ∧ Q1 p1 h0 n0 v U'.heap L ∧ FrameEnd U o U' L ({ frames := 0, cells := 0, slots := 0, locals := 0 } : Room).cells ({ frames := 0, cells := 0, slots := 0, locals := 0 } : Room).slots) := by
  refine MetFree.of_bodySF (plainFor_of_name pn_0) hisR ?_
  intro p e s m args below meth c s₁ Bd hml0 hP hK
  obtain ⟨rfl, hZ, hh⟩ := hP
  have hx := Bd.exec
  have hby := Bd.bytes
  have hml : c.maxLocals = 2 := hml0
  have hown : s.vm.findClass own_k2 = some m.cls := findClass_of_methodNamed Bd.named
  have hnm := (name_of_methodNamed Bd.named Bd.method).1
  have X0 : Stand p l e ({ frames := 0, cells := 0, slots := 0, locals := 0 } : Room) s m #[(.int p1)] below meth c s₁ [] 0 0 := Stand.of_body Bd
  have e0 : s₁.heap = h0 := by rw [← hh, Bd.state]; rfl
  have N0 := Fr.nil n0
  have pre0 : ∀ t, Steps p.tables e below (s₁.setTop (mkF m 0 #[.val (.int p1), .unset] [])) t → Steps p.tables e below (s₁.setTop (entryFrame m #[(.int p1)] 2)) t := fun t k => castTop (ef_1 m p1) k
  obtain ⟨fs, hr, hrun, hended, hW, hsame⟩ := X0.leave (v := some (.int (own_f1 p1))) (fun h => by rw [Bd.returns] at h; cases h)
  refine ⟨_, _, pre0 _ ?_, hrun, hended, _, _, rfl, ?_, ⟨_, rfl⟩, hW, hsame.mono (by decide) (by decide)⟩
  · skip
    have J28 : ∀ (l1 : Int32) (hv : own_f1 p1 = own_f1_28 p1 l1), Steps p.tables e below (s₁.setTop (mkF m 28 #[.val (.int p1), .val (.int l1)] [])) (s₁.setFrames fs) := by
      intro l1 hv
      show Steps p.tables e below (s₁.setTop (mkF m 28 #[.val (.int p1), .val (.int l1)] [])) _
      refine XS.iloadN X0.here hx rfl (hb hby d1_28) rfl ?_
      show Steps p.tables e below (s₁.setTop (mkF m 29 #[.val (.int p1), .val (.int l1)] [(.int l1)])) _
      rw [hv] at hr
      exact retI X0 hx Bd.returns (hb hby d1_29) hr
    have J0 : ∀ (hv : own_f1 p1 = own_f1 p1 ), Steps p.tables e below (s₁.setTop (mkF m 0 #[.val (.int p1), .unset] [])) (s₁.setFrames fs) := by
      intro hv
      show Steps p.tables e below (s₁.setTop (mkF m 0 #[.val (.int p1), .unset] [])) _
      refine XS.iloadN X0.here hx rfl (hb hby d1_0) rfl ?_
      show Steps p.tables e below (s₁.setTop (mkF m 1 #[.val (.int p1), .unset] [(.int p1)])) _
      refine XS.sipush X0.here hx rfl (hb hby d1_1) ?_
      show Steps p.tables e below (s₁.setTop (mkF m 4 #[.val (.int p1), .unset] [(.int (165 : Int32)), (.int p1)])) _
      by_cases hc4 : p1 = (165 : Int32)
      · replace hv := hv.trans (if_pos hc4)
        refine XS.icmpNo X0.here hx rfl (hb hby d1_4) rfl (teq hc4).2 ?_
        show Steps p.tables e below (s₁.setTop (mkF m 7 #[.val (.int p1), .unset] [])) _
        refine XS.bipush X0.here hx rfl (hb hby d1_7) ?_
        show Steps p.tables e below (s₁.setTop (mkF m 9 #[.val (.int p1), .unset] [(.int (92 : Int32))])) _
        refine XS.istoreN X0.here hx rfl (hb hby d1_9) rfl (l' := #[.val (.int p1), .val (.int (92 : Int32))]) rfl ?_
        show Steps p.tables e below (s₁.setTop (mkF m 10 #[.val (.int p1), .val (.int (92 : Int32))] [])) _
        refine XS.goto X0.here hx rfl (pc0 := 10) (pc' := 28) rfl (hb hby d1_10) (by decide) (by decide) ?_
        exact J28 (92 : Int32) hv
      · replace hv := hv.trans (if_neg hc4)
        refine XS.icmpYes X0.here hx rfl (pc0 := 4) (pc' := 13) rfl (hb hby d1_4) rfl (feq hc4).2 (by decide) (by decide) ?_
        show Steps p.tables e below (s₁.setTop (mkF m 13 #[.val (.int p1), .unset] [])) _
        refine XS.iloadN X0.here hx rfl (hb hby d1_13) rfl ?_
        show Steps p.tables e below (s₁.setTop (mkF m 14 #[.val (.int p1), .unset] [(.int p1)])) _
        refine XS.sipush X0.here hx rfl (hb hby d1_14) ?_
        show Steps p.tables e below (s₁.setTop (mkF m 17 #[.val (.int p1), .unset] [(.int (8254 : Int32)), (.int p1)])) _
        by_cases hc17 : p1 = (8254 : Int32)
        · replace hv := hv.trans (if_pos hc17)
          refine XS.icmpNo X0.here hx rfl (hb hby d1_17) rfl (teq hc17).2 ?_
          show Steps p.tables e below (s₁.setTop (mkF m 20 #[.val (.int p1), .unset] [])) _
          refine XS.bipush X0.here hx rfl (hb hby d1_20) ?_
          show Steps p.tables e below (s₁.setTop (mkF m 22 #[.val (.int p1), .unset] [(.int (126 : Int32))])) _
          refine XS.istoreN X0.here hx rfl (hb hby d1_22) rfl (l' := #[.val (.int p1), .val (.int (126 : Int32))]) rfl ?_
          show Steps p.tables e below (s₁.setTop (mkF m 23 #[.val (.int p1), .val (.int (126 : Int32))] [])) _
          refine XS.goto X0.here hx rfl (pc0 := 23) (pc' := 28) rfl (hb hby d1_23) (by decide) (by decide) ?_
          exact J28 (126 : Int32) hv
        · replace hv := hv.trans (if_neg hc17)
          refine XS.icmpYes X0.here hx rfl (pc0 := 17) (pc' := 26) rfl (hb hby d1_17) rfl (feq hc17).2 (by decide) (by decide) ?_
          show Steps p.tables e below (s₁.setTop (mkF m 26 #[.val (.int p1), .unset] [])) _
          refine XS.iconst X0.here hx rfl (hb hby d1_26) ?_
          show Steps p.tables e below (s₁.setTop (mkF m 27 #[.val (.int p1), .unset] [(.int (-1 : Int32))])) _
          refine XS.istoreN X0.here hx rfl (hb hby d1_27) rfl (l' := #[.val (.int p1), .val (.int (-1 : Int32))]) rfl ?_
          exact J28 (-1 : Int32) hv
    exact J0 rfl
  · show Q1 p1 h0 n0 _ s₁.heap _
    rw [e0]
    exact ⟨rfl, N0, rfl⟩
def Q0 (n0 : Nat) (v : Option Value) (h : Heap) (L : List Loc) : Prop := v = some (.int (1 : Int32)) ∧ Fr n0 L
theorem ef_0 (m : MethodId) (x0 : Int32) (x1 : Int32) : entryFrame m #[(.int x0), (.int x1)] maxLocals = mkF m 0 #[.val (.int x0), .val (.int x1), .unset, .unset, .unset, .unset, .unset] [] := by first | (simp [entryFrame, mkF, argsToLocals, Value.category, maxLocals]; done) | rfl
set_option maxRecDepth 65536 in
set_option maxHeartbeats 40000000 in
theorem rm0 (l : Launch) (Z : State) (a0 : Array Value) (hw : ∀ d ∈ tables_1, d.before a0 Z = true) (ws : List Jvm.Cond) (p1 : Int32) (p2 : Int32) (h0 : Heap) (n0 : Nat) (Z0 : n0 ≤ h0.size) :
    MetFree l x (head1 (Jvm.Cond.code x code maxLocals ret :: ws) room_1) (fun a U => a = #[(.int p1), (.int p2)] ∧ Z.Warmed39 U.vm ∧ U.heap = h0) (fun _ _ _ _ _ => True) (fun _ U o U' => ∃ v L, o = .returned v ∧ Q0 n0 v U'.heap L ∧ FrameEnd U o U' L room_1.cells room_1.slots) := by
  refine MetFree.of_bodySF (plainFor_of_name pn_1) hisR ?_
  intro p e s m args below meth c s₁ Bd hml0 hP hK
  obtain ⟨rfl, hZ, hh⟩ := hP
  have hx := Bd.exec
  have hby := Bd.bytes
  have hml : c.maxLocals = 7 := hml0
  have hown : s.vm.findClass x.cls = some m.cls := findClass_of_methodNamed Bd.named
  have hnm := (name_of_methodNamed Bd.named Bd.method).1
  have X0 : Stand p l e room_1 s m #[(.int p1), (.int p2)] below meth c s₁ [] 0 0 := Stand.of_body Bd
  have e0 : s₁.heap = h0 := by rw [← hh, Bd.state]; rfl
  have N0 := Fr.nil n0
  have pre0 : ∀ t, Steps p.tables e below (s₁.setTop (mkF m 0 #[.val (.int p1), .val (.int p2), .unset, .unset, .unset, .unset, .unset] [])) t → Steps p.tables e below (s₁.setTop (entryFrame m #[(.int p1), (.int p2)] maxLocals)) t := fun t k => castTop (ef_0 m p1 p2) k
  have pre1 : ∀ t, Steps p.tables e below (s₁.setTop (mkF m 6 #[.val (.int p1), .val (.int p2), .val (.int (p2 &&& (7 : Int32))), .unset, .unset, .unset, .unset] [(.int (p2 &&& (7 : Int32)))])) t → Steps p.tables e below (s₁.setTop (entryFrame m #[(.int p1), (.int p2)] maxLocals)) t := by
    intro t kt
    refine pre0 t ?_
    show Steps p.tables e below (s₁.setTop (mkF m 0 #[.val (.int p1), .val (.int p2), .unset, .unset, .unset, .unset, .unset] [])) _
    refine XS.iloadN X0.here hx rfl (hb hby at_0) rfl ?_
    show Steps p.tables e below (s₁.setTop (mkF m 1 #[.val (.int p1), .val (.int p2), .unset, .unset, .unset, .unset, .unset] [(.int p2)])) _
    refine XS.bipush X0.here hx rfl (hb hby at_1) ?_
    show Steps p.tables e below (s₁.setTop (mkF m 3 #[.val (.int p1), .val (.int p2), .unset, .unset, .unset, .unset, .unset] [(.int (7 : Int32)), (.int p2)])) _
    refine XS.iand X0.here hx rfl (hb hby at_3) rfl ?_
    show Steps p.tables e below (s₁.setTop (mkF m 4 #[.val (.int p1), .val (.int p2), .unset, .unset, .unset, .unset, .unset] [(.int (p2 &&& (7 : Int32)))])) _
    refine XS.istoreN X0.here hx rfl (hb hby at_4) rfl (l' := #[.val (.int p1), .val (.int p2), .val (.int (p2 &&& (7 : Int32))), .unset, .unset, .unset, .unset]) rfl ?_
    show Steps p.tables e below (s₁.setTop (mkF m 5 #[.val (.int p1), .val (.int p2), .val (.int (p2 &&& (7 : Int32))), .unset, .unset, .unset, .unset] [])) _
    refine XS.iloadN X0.here hx rfl (hb hby at_5) rfl ?_
    exact kt
  obtain ⟨v2_0, hv2_0, pre2⟩ : ∃ (v2_0 : Int32), v2_0 = (if (p2 &&& (7 : Int32)) = (0 : Int32) then (165 : Int32) else (if (p2 &&& (7 : Int32)) = (1 : Int32) then (8254 : Int32) else (if (p2 &&& (7 : Int32)) = (2 : Int32) then (164 : Int32) else (if (p2 &&& (7 : Int32)) = (3 : Int32) then (166 : Int32) else (if (p2 &&& (7 : Int32)) = (4 : Int32) then (8253 : Int32) else (if (p2 &&& (7 : Int32)) = (5 : Int32) then (8255 : Int32) else (if (p2 &&& (7 : Int32)) = (6 : Int32) then (if (p1 &&& (1 : Int32)) = (0 : Int32) then (126 : Int32) else (92 : Int32)) else p1))))))) ∧ ∀ t, Steps p.tables e below (s₁.setTop (mkF m 101 #[.val (.int p1), .val (.int p2), .val (.int (p2 &&& (7 : Int32))), .val (.int v2_0), .unset, .unset, .unset] [])) t → Steps p.tables e below (s₁.setTop (entryFrame m #[(.int p1), (.int p2)] maxLocals)) t := by
    refine ⟨_, rfl, ?_⟩
    intro t kt
    refine pre1 t ?_
    show Steps p.tables e below (s₁.setTop (mkF m 6 #[.val (.int p1), .val (.int p2), .val (.int (p2 &&& (7 : Int32))), .unset, .unset, .unset, .unset] [(.int (p2 &&& (7 : Int32)))])) _
    by_cases hc6 : (p2 &&& (7 : Int32)) = (0 : Int32)
    · (try simp only [if_pos hc6] at kt)
      refine XS.ifNo X0.here hx rfl (hb hby at_6) rfl ((if0 _ _).trans (teq hc6).2) ?_
      show Steps p.tables e below (s₁.setTop (mkF m 9 #[.val (.int p1), .val (.int p2), .val (.int (p2 &&& (7 : Int32))), .unset, .unset, .unset, .unset] [])) _
      refine XS.sipush X0.here hx rfl (hb hby at_9) ?_
      show Steps p.tables e below (s₁.setTop (mkF m 12 #[.val (.int p1), .val (.int p2), .val (.int (p2 &&& (7 : Int32))), .unset, .unset, .unset, .unset] [(.int (165 : Int32))])) _
      refine XS.istoreN X0.here hx rfl (hb hby at_12) rfl (l' := #[.val (.int p1), .val (.int p2), .val (.int (p2 &&& (7 : Int32))), .val (.int (165 : Int32)), .unset, .unset, .unset]) rfl ?_
      show Steps p.tables e below (s₁.setTop (mkF m 13 #[.val (.int p1), .val (.int p2), .val (.int (p2 &&& (7 : Int32))), .val (.int (165 : Int32)), .unset, .unset, .unset] [])) _
      refine XS.goto X0.here hx rfl (pc0 := 13) (pc' := 101) rfl (hb hby at_13) (by decide) (by decide) ?_
      exact kt
    · (try simp only [if_neg hc6] at kt)
      refine XS.ifYes X0.here hx rfl (pc0 := 6) (pc' := 16) rfl (hb hby at_6) rfl ((if0 _ _).trans (feq hc6).2) (by decide) (by decide) ?_
      show Steps p.tables e below (s₁.setTop (mkF m 16 #[.val (.int p1), .val (.int p2), .val (.int (p2 &&& (7 : Int32))), .unset, .unset, .unset, .unset] [])) _
      refine XS.iloadN X0.here hx rfl (hb hby at_16) rfl ?_
      show Steps p.tables e below (s₁.setTop (mkF m 17 #[.val (.int p1), .val (.int p2), .val (.int (p2 &&& (7 : Int32))), .unset, .unset, .unset, .unset] [(.int (p2 &&& (7 : Int32)))])) _
      refine XS.iconst X0.here hx rfl (hb hby at_17) ?_
      show Steps p.tables e below (s₁.setTop (mkF m 18 #[.val (.int p1), .val (.int p2), .val (.int (p2 &&& (7 : Int32))), .unset, .unset, .unset, .unset] [(.int (1 : Int32)), (.int (p2 &&& (7 : Int32)))])) _
      by_cases hc18 : (p2 &&& (7 : Int32)) = (1 : Int32)
      · (try simp only [if_pos hc18] at kt)
        refine XS.icmpNo X0.here hx rfl (hb hby at_18) rfl (teq hc18).2 ?_
        show Steps p.tables e below (s₁.setTop (mkF m 21 #[.val (.int p1), .val (.int p2), .val (.int (p2 &&& (7 : Int32))), .unset, .unset, .unset, .unset] [])) _
        refine XS.sipush X0.here hx rfl (hb hby at_21) ?_
        show Steps p.tables e below (s₁.setTop (mkF m 24 #[.val (.int p1), .val (.int p2), .val (.int (p2 &&& (7 : Int32))), .unset, .unset, .unset, .unset] [(.int (8254 : Int32))])) _
        refine XS.istoreN X0.here hx rfl (hb hby at_24) rfl (l' := #[.val (.int p1), .val (.int p2), .val (.int (p2 &&& (7 : Int32))), .val (.int (8254 : Int32)), .unset, .unset, .unset]) rfl ?_
        show Steps p.tables e below (s₁.setTop (mkF m 25 #[.val (.int p1), .val (.int p2), .val (.int (p2 &&& (7 : Int32))), .val (.int (8254 : Int32)), .unset, .unset, .unset] [])) _
        refine XS.goto X0.here hx rfl (pc0 := 25) (pc' := 101) rfl (hb hby at_25) (by decide) (by decide) ?_
        exact kt
      · (try simp only [if_neg hc18] at kt)
        refine XS.icmpYes X0.here hx rfl (pc0 := 18) (pc' := 28) rfl (hb hby at_18) rfl (feq hc18).2 (by decide) (by decide) ?_
        show Steps p.tables e below (s₁.setTop (mkF m 28 #[.val (.int p1), .val (.int p2), .val (.int (p2 &&& (7 : Int32))), .unset, .unset, .unset, .unset] [])) _
        refine XS.iloadN X0.here hx rfl (hb hby at_28) rfl ?_
        show Steps p.tables e below (s₁.setTop (mkF m 29 #[.val (.int p1), .val (.int p2), .val (.int (p2 &&& (7 : Int32))), .unset, .unset, .unset, .unset] [(.int (p2 &&& (7 : Int32)))])) _
        refine XS.iconst X0.here hx rfl (hb hby at_29) ?_
        show Steps p.tables e below (s₁.setTop (mkF m 30 #[.val (.int p1), .val (.int p2), .val (.int (p2 &&& (7 : Int32))), .unset, .unset, .unset, .unset] [(.int (2 : Int32)), (.int (p2 &&& (7 : Int32)))])) _
        by_cases hc30 : (p2 &&& (7 : Int32)) = (2 : Int32)
        · (try simp only [if_pos hc30] at kt)
          refine XS.icmpNo X0.here hx rfl (hb hby at_30) rfl (teq hc30).2 ?_
          show Steps p.tables e below (s₁.setTop (mkF m 33 #[.val (.int p1), .val (.int p2), .val (.int (p2 &&& (7 : Int32))), .unset, .unset, .unset, .unset] [])) _
          refine XS.sipush X0.here hx rfl (hb hby at_33) ?_
          show Steps p.tables e below (s₁.setTop (mkF m 36 #[.val (.int p1), .val (.int p2), .val (.int (p2 &&& (7 : Int32))), .unset, .unset, .unset, .unset] [(.int (164 : Int32))])) _
          refine XS.istoreN X0.here hx rfl (hb hby at_36) rfl (l' := #[.val (.int p1), .val (.int p2), .val (.int (p2 &&& (7 : Int32))), .val (.int (164 : Int32)), .unset, .unset, .unset]) rfl ?_
          show Steps p.tables e below (s₁.setTop (mkF m 37 #[.val (.int p1), .val (.int p2), .val (.int (p2 &&& (7 : Int32))), .val (.int (164 : Int32)), .unset, .unset, .unset] [])) _
          refine XS.goto X0.here hx rfl (pc0 := 37) (pc' := 101) rfl (hb hby at_37) (by decide) (by decide) ?_
          exact kt
        · (try simp only [if_neg hc30] at kt)
          refine XS.icmpYes X0.here hx rfl (pc0 := 30) (pc' := 40) rfl (hb hby at_30) rfl (feq hc30).2 (by decide) (by decide) ?_
          show Steps p.tables e below (s₁.setTop (mkF m 40 #[.val (.int p1), .val (.int p2), .val (.int (p2 &&& (7 : Int32))), .unset, .unset, .unset, .unset] [])) _
          refine XS.iloadN X0.here hx rfl (hb hby at_40) rfl ?_
          show Steps p.tables e below (s₁.setTop (mkF m 41 #[.val (.int p1), .val (.int p2), .val (.int (p2 &&& (7 : Int32))), .unset, .unset, .unset, .unset] [(.int (p2 &&& (7 : Int32)))])) _
          refine XS.iconst X0.here hx rfl (hb hby at_41) ?_
          show Steps p.tables e below (s₁.setTop (mkF m 42 #[.val (.int p1), .val (.int p2), .val (.int (p2 &&& (7 : Int32))), .unset, .unset, .unset, .unset] [(.int (3 : Int32)), (.int (p2 &&& (7 : Int32)))])) _
          by_cases hc42 : (p2 &&& (7 : Int32)) = (3 : Int32)
          · (try simp only [if_pos hc42] at kt)
            refine XS.icmpNo X0.here hx rfl (hb hby at_42) rfl (teq hc42).2 ?_
            show Steps p.tables e below (s₁.setTop (mkF m 45 #[.val (.int p1), .val (.int p2), .val (.int (p2 &&& (7 : Int32))), .unset, .unset, .unset, .unset] [])) _
            refine XS.sipush X0.here hx rfl (hb hby at_45) ?_
            show Steps p.tables e below (s₁.setTop (mkF m 48 #[.val (.int p1), .val (.int p2), .val (.int (p2 &&& (7 : Int32))), .unset, .unset, .unset, .unset] [(.int (166 : Int32))])) _
            refine XS.istoreN X0.here hx rfl (hb hby at_48) rfl (l' := #[.val (.int p1), .val (.int p2), .val (.int (p2 &&& (7 : Int32))), .val (.int (166 : Int32)), .unset, .unset, .unset]) rfl ?_
            show Steps p.tables e below (s₁.setTop (mkF m 49 #[.val (.int p1), .val (.int p2), .val (.int (p2 &&& (7 : Int32))), .val (.int (166 : Int32)), .unset, .unset, .unset] [])) _
            refine XS.goto X0.here hx rfl (pc0 := 49) (pc' := 101) rfl (hb hby at_49) (by decide) (by decide) ?_
            exact kt
          · (try simp only [if_neg hc42] at kt)
            refine XS.icmpYes X0.here hx rfl (pc0 := 42) (pc' := 52) rfl (hb hby at_42) rfl (feq hc42).2 (by decide) (by decide) ?_
            show Steps p.tables e below (s₁.setTop (mkF m 52 #[.val (.int p1), .val (.int p2), .val (.int (p2 &&& (7 : Int32))), .unset, .unset, .unset, .unset] [])) _
            refine XS.iloadN X0.here hx rfl (hb hby at_52) rfl ?_
            show Steps p.tables e below (s₁.setTop (mkF m 53 #[.val (.int p1), .val (.int p2), .val (.int (p2 &&& (7 : Int32))), .unset, .unset, .unset, .unset] [(.int (p2 &&& (7 : Int32)))])) _
            refine XS.iconst X0.here hx rfl (hb hby at_53) ?_
            show Steps p.tables e below (s₁.setTop (mkF m 54 #[.val (.int p1), .val (.int p2), .val (.int (p2 &&& (7 : Int32))), .unset, .unset, .unset, .unset] [(.int (4 : Int32)), (.int (p2 &&& (7 : Int32)))])) _
            by_cases hc54 : (p2 &&& (7 : Int32)) = (4 : Int32)
            · (try simp only [if_pos hc54] at kt)
              refine XS.icmpNo X0.here hx rfl (hb hby at_54) rfl (teq hc54).2 ?_
              show Steps p.tables e below (s₁.setTop (mkF m 57 #[.val (.int p1), .val (.int p2), .val (.int (p2 &&& (7 : Int32))), .unset, .unset, .unset, .unset] [])) _
              refine XS.sipush X0.here hx rfl (hb hby at_57) ?_
              show Steps p.tables e below (s₁.setTop (mkF m 60 #[.val (.int p1), .val (.int p2), .val (.int (p2 &&& (7 : Int32))), .unset, .unset, .unset, .unset] [(.int (8253 : Int32))])) _
              refine XS.istoreN X0.here hx rfl (hb hby at_60) rfl (l' := #[.val (.int p1), .val (.int p2), .val (.int (p2 &&& (7 : Int32))), .val (.int (8253 : Int32)), .unset, .unset, .unset]) rfl ?_
              show Steps p.tables e below (s₁.setTop (mkF m 61 #[.val (.int p1), .val (.int p2), .val (.int (p2 &&& (7 : Int32))), .val (.int (8253 : Int32)), .unset, .unset, .unset] [])) _
              refine XS.goto X0.here hx rfl (pc0 := 61) (pc' := 101) rfl (hb hby at_61) (by decide) (by decide) ?_
              exact kt
            · (try simp only [if_neg hc54] at kt)
              refine XS.icmpYes X0.here hx rfl (pc0 := 54) (pc' := 64) rfl (hb hby at_54) rfl (feq hc54).2 (by decide) (by decide) ?_
              show Steps p.tables e below (s₁.setTop (mkF m 64 #[.val (.int p1), .val (.int p2), .val (.int (p2 &&& (7 : Int32))), .unset, .unset, .unset, .unset] [])) _
              refine XS.iloadN X0.here hx rfl (hb hby at_64) rfl ?_
              show Steps p.tables e below (s₁.setTop (mkF m 65 #[.val (.int p1), .val (.int p2), .val (.int (p2 &&& (7 : Int32))), .unset, .unset, .unset, .unset] [(.int (p2 &&& (7 : Int32)))])) _
              refine XS.iconst X0.here hx rfl (hb hby at_65) ?_
              show Steps p.tables e below (s₁.setTop (mkF m 66 #[.val (.int p1), .val (.int p2), .val (.int (p2 &&& (7 : Int32))), .unset, .unset, .unset, .unset] [(.int (5 : Int32)), (.int (p2 &&& (7 : Int32)))])) _
              by_cases hc66 : (p2 &&& (7 : Int32)) = (5 : Int32)
              · (try simp only [if_pos hc66] at kt)
                refine XS.icmpNo X0.here hx rfl (hb hby at_66) rfl (teq hc66).2 ?_
                show Steps p.tables e below (s₁.setTop (mkF m 69 #[.val (.int p1), .val (.int p2), .val (.int (p2 &&& (7 : Int32))), .unset, .unset, .unset, .unset] [])) _
                refine XS.sipush X0.here hx rfl (hb hby at_69) ?_
                show Steps p.tables e below (s₁.setTop (mkF m 72 #[.val (.int p1), .val (.int p2), .val (.int (p2 &&& (7 : Int32))), .unset, .unset, .unset, .unset] [(.int (8255 : Int32))])) _
                refine XS.istoreN X0.here hx rfl (hb hby at_72) rfl (l' := #[.val (.int p1), .val (.int p2), .val (.int (p2 &&& (7 : Int32))), .val (.int (8255 : Int32)), .unset, .unset, .unset]) rfl ?_
                show Steps p.tables e below (s₁.setTop (mkF m 73 #[.val (.int p1), .val (.int p2), .val (.int (p2 &&& (7 : Int32))), .val (.int (8255 : Int32)), .unset, .unset, .unset] [])) _
                refine XS.goto X0.here hx rfl (pc0 := 73) (pc' := 101) rfl (hb hby at_73) (by decide) (by decide) ?_
                exact kt
              · (try simp only [if_neg hc66] at kt)
                refine XS.icmpYes X0.here hx rfl (pc0 := 66) (pc' := 76) rfl (hb hby at_66) rfl (feq hc66).2 (by decide) (by decide) ?_
                show Steps p.tables e below (s₁.setTop (mkF m 76 #[.val (.int p1), .val (.int p2), .val (.int (p2 &&& (7 : Int32))), .unset, .unset, .unset, .unset] [])) _
                refine XS.iloadN X0.here hx rfl (hb hby at_76) rfl ?_
                show Steps p.tables e below (s₁.setTop (mkF m 77 #[.val (.int p1), .val (.int p2), .val (.int (p2 &&& (7 : Int32))), .unset, .unset, .unset, .unset] [(.int (p2 &&& (7 : Int32)))])) _
                refine XS.bipush X0.here hx rfl (hb hby at_77) ?_
                show Steps p.tables e below (s₁.setTop (mkF m 79 #[.val (.int p1), .val (.int p2), .val (.int (p2 &&& (7 : Int32))), .unset, .unset, .unset, .unset] [(.int (6 : Int32)), (.int (p2 &&& (7 : Int32)))])) _
                by_cases hc79 : (p2 &&& (7 : Int32)) = (6 : Int32)
                · (try simp only [if_pos hc79] at kt)
                  refine XS.icmpNo X0.here hx rfl (hb hby at_79) rfl (teq hc79).2 ?_
                  show Steps p.tables e below (s₁.setTop (mkF m 82 #[.val (.int p1), .val (.int p2), .val (.int (p2 &&& (7 : Int32))), .unset, .unset, .unset, .unset] [])) _
                  refine XS.iloadN X0.here hx rfl (hb hby at_82) rfl ?_
                  show Steps p.tables e below (s₁.setTop (mkF m 83 #[.val (.int p1), .val (.int p2), .val (.int (p2 &&& (7 : Int32))), .unset, .unset, .unset, .unset] [(.int p1)])) _
                  refine XS.iconst X0.here hx rfl (hb hby at_83) ?_
                  show Steps p.tables e below (s₁.setTop (mkF m 84 #[.val (.int p1), .val (.int p2), .val (.int (p2 &&& (7 : Int32))), .unset, .unset, .unset, .unset] [(.int (1 : Int32)), (.int p1)])) _
                  refine XS.iand X0.here hx rfl (hb hby at_84) rfl ?_
                  show Steps p.tables e below (s₁.setTop (mkF m 85 #[.val (.int p1), .val (.int p2), .val (.int (p2 &&& (7 : Int32))), .unset, .unset, .unset, .unset] [(.int (p1 &&& (1 : Int32)))])) _
                  by_cases hc85 : (p1 &&& (1 : Int32)) = (0 : Int32)
                  · (try simp only [if_pos hc85] at kt)
                    refine XS.ifYes X0.here hx rfl (pc0 := 85) (pc' := 93) rfl (hb hby at_85) rfl ((if0 _ _).trans (teq hc85).1) (by decide) (by decide) ?_
                    show Steps p.tables e below (s₁.setTop (mkF m 93 #[.val (.int p1), .val (.int p2), .val (.int (p2 &&& (7 : Int32))), .unset, .unset, .unset, .unset] [])) _
                    refine XS.bipush X0.here hx rfl (hb hby at_93) ?_
                    show Steps p.tables e below (s₁.setTop (mkF m 95 #[.val (.int p1), .val (.int p2), .val (.int (p2 &&& (7 : Int32))), .unset, .unset, .unset, .unset] [(.int (126 : Int32))])) _
                    refine XS.istoreN X0.here hx rfl (hb hby at_95) rfl (l' := #[.val (.int p1), .val (.int p2), .val (.int (p2 &&& (7 : Int32))), .val (.int (126 : Int32)), .unset, .unset, .unset]) rfl ?_
                    show Steps p.tables e below (s₁.setTop (mkF m 96 #[.val (.int p1), .val (.int p2), .val (.int (p2 &&& (7 : Int32))), .val (.int (126 : Int32)), .unset, .unset, .unset] [])) _
                    refine XS.goto X0.here hx rfl (pc0 := 96) (pc' := 101) rfl (hb hby at_96) (by decide) (by decide) ?_
                    exact kt
                  · (try simp only [if_neg hc85] at kt)
                    refine XS.ifNo X0.here hx rfl (hb hby at_85) rfl ((if0 _ _).trans (feq hc85).1) ?_
                    show Steps p.tables e below (s₁.setTop (mkF m 88 #[.val (.int p1), .val (.int p2), .val (.int (p2 &&& (7 : Int32))), .unset, .unset, .unset, .unset] [])) _
                    refine XS.bipush X0.here hx rfl (hb hby at_88) ?_
                    show Steps p.tables e below (s₁.setTop (mkF m 90 #[.val (.int p1), .val (.int p2), .val (.int (p2 &&& (7 : Int32))), .unset, .unset, .unset, .unset] [(.int (92 : Int32))])) _
                    refine XS.goto X0.here hx rfl (pc0 := 90) (pc' := 95) rfl (hb hby at_90) (by decide) (by decide) ?_
                    show Steps p.tables e below (s₁.setTop (mkF m 95 #[.val (.int p1), .val (.int p2), .val (.int (p2 &&& (7 : Int32))), .unset, .unset, .unset, .unset] [(.int (92 : Int32))])) _
                    refine XS.istoreN X0.here hx rfl (hb hby at_95) rfl (l' := #[.val (.int p1), .val (.int p2), .val (.int (p2 &&& (7 : Int32))), .val (.int (92 : Int32)), .unset, .unset, .unset]) rfl ?_
                    show Steps p.tables e below (s₁.setTop (mkF m 96 #[.val (.int p1), .val (.int p2), .val (.int (p2 &&& (7 : Int32))), .val (.int (92 : Int32)), .unset, .unset, .unset] [])) _
                    refine XS.goto X0.here hx rfl (pc0 := 96) (pc' := 101) rfl (hb hby at_96) (by decide) (by decide) ?_
                    exact kt
                · (try simp only [if_neg hc79] at kt)
                  refine XS.icmpYes X0.here hx rfl (pc0 := 79) (pc' := 99) rfl (hb hby at_79) rfl (feq hc79).2 (by decide) (by decide) ?_
                  show Steps p.tables e below (s₁.setTop (mkF m 99 #[.val (.int p1), .val (.int p2), .val (.int (p2 &&& (7 : Int32))), .unset, .unset, .unset, .unset] [])) _
                  refine XS.iloadN X0.here hx rfl (hb hby at_99) rfl ?_
                  show Steps p.tables e below (s₁.setTop (mkF m 100 #[.val (.int p1), .val (.int p2), .val (.int (p2 &&& (7 : Int32))), .unset, .unset, .unset, .unset] [(.int p1)])) _
                  refine XS.istoreN X0.here hx rfl (hb hby at_100) rfl (l' := #[.val (.int p1), .val (.int p2), .val (.int (p2 &&& (7 : Int32))), .val (.int p1), .unset, .unset, .unset]) rfl ?_
                  exact kt
  have pre3 : ∀ t, Steps p.tables e below (s₁.setTop (mkF m 102 #[.val (.int p1), .val (.int p2), .val (.int (p2 &&& (7 : Int32))), .val (.int v2_0), .unset, .unset, .unset] [(.int v2_0)])) t → Steps p.tables e below (s₁.setTop (entryFrame m #[(.int p1), (.int p2)] maxLocals)) t := by
    intro t kt
    refine pre2 t ?_
    show Steps p.tables e below (s₁.setTop (mkF m 101 #[.val (.int p1), .val (.int p2), .val (.int (p2 &&& (7 : Int32))), .val (.int v2_0), .unset, .unset, .unset] [])) _
    refine XS.iloadN X0.here hx rfl (hb hby at_101) rfl ?_
    exact kt
  obtain ⟨_, _, ⟨T4, L4, k4, n4⟩, -, X4, ⟨Lc4, hQ4, l4, y4, z4⟩, st4⟩ := Jvm.LawKit.callS X0 hx (y := (⟨own_k2, "romanByte", "(I)I"⟩ : MethodName)) hown (mvT hZ (hw _ (List.mem_of_getElem? (i := 0) rfl))) (mvT hZ (hw _ (List.mem_of_getElem? (i := 1) rfl))) (mvT hZ (hw _ (List.mem_of_getElem? (i := 2) rfl))) (mvT hZ (hw _ (List.mem_of_getElem? (i := 3) rfl))) (by decide) (backOf (W := 0) (rm1 l Z a0 hw [] v2_0 h0 n0) hZ (hw _ (List.mem_of_getElem? (i := 3) rfl)) (hw _ (List.mem_of_getElem? (i := 2) rfl)) (by decide) (by decide)) (g := (mkF m 102 #[.val (.int p1), .val (.int p2), .val (.int (p2 &&& (7 : Int32))), .val (.int v2_0), .unset, .unset, .unset] [(.int v2_0)])) rfl (by rw [hml]; rfl) (argsL := [(.int v2_0)]) (rest := []) (lenOf pd_0 rfl) rfl (by show 2 * 0 + _ ≤ _; exact Nat.le_of_eq rfl) (hb hby at_102) (fun _ _ => ⟨rfl, e0, (by decide : 0 + 0 ≤ _), (by decide : 0 + 0 ≤ _)⟩)
  dsimp only [Pt.U, Pt.locs, Pt.cells, Pt.slots] at X4 l4 y4 z4 st4 hQ4
  subst l4 y4 z4
  obtain ⟨rfl, N4q, e4⟩ := hQ4
  have N4 := Fr.app N0 N4q
  have pre4 : ∀ t, Steps p.tables e below (T4.setTop (mkF m 105 #[.val (.int p1), .val (.int p2), .val (.int (p2 &&& (7 : Int32))), .val (.int v2_0), .unset, .unset, .unset] [(.int (own_f1 v2_0))])) t → Steps p.tables e below (s₁.setTop (entryFrame m #[(.int p1), (.int p2)] maxLocals)) t := fun t kt => pre3 t (st4 _ kt)
  have pre5 : ∀ t, Steps p.tables e below (T4.setTop (mkF m 111 #[.val (.int p1), .val (.int p2), .val (.int (p2 &&& (7 : Int32))), .val (.int v2_0), .val (.int (own_f1 v2_0)), .unset, .unset] [(.int (165 : Int32)), (.int v2_0)])) t → Steps p.tables e below (s₁.setTop (entryFrame m #[(.int p1), (.int p2)] maxLocals)) t := by
    intro t kt
    refine pre4 t ?_
    show Steps p.tables e below (T4.setTop (mkF m 105 #[.val (.int p1), .val (.int p2), .val (.int (p2 &&& (7 : Int32))), .val (.int v2_0), .unset, .unset, .unset] [(.int (own_f1 v2_0))])) _
    refine XS.istore X4.here hx rfl (hb hby at_105) rfl (l' := #[.val (.int p1), .val (.int p2), .val (.int (p2 &&& (7 : Int32))), .val (.int v2_0), .val (.int (own_f1 v2_0)), .unset, .unset]) rfl ?_
    show Steps p.tables e below (T4.setTop (mkF m 107 #[.val (.int p1), .val (.int p2), .val (.int (p2 &&& (7 : Int32))), .val (.int v2_0), .val (.int (own_f1 v2_0)), .unset, .unset] [])) _
    refine XS.iloadN X4.here hx rfl (hb hby at_107) rfl ?_
    show Steps p.tables e below (T4.setTop (mkF m 108 #[.val (.int p1), .val (.int p2), .val (.int (p2 &&& (7 : Int32))), .val (.int v2_0), .val (.int (own_f1 v2_0)), .unset, .unset] [(.int v2_0)])) _
    refine XS.sipush X4.here hx rfl (hb hby at_108) ?_
    exact kt
  obtain ⟨v6_0, hv6_0, pre6⟩ : ∃ (v6_0 : Int32), v6_0 = (if v2_0 = (165 : Int32) then (92 : Int32) else (if v2_0 = (8254 : Int32) then (126 : Int32) else (-1 : Int32))) ∧ ∀ t, Steps p.tables e below (T4.setTop (mkF m 138 #[.val (.int p1), .val (.int p2), .val (.int (p2 &&& (7 : Int32))), .val (.int v2_0), .val (.int (own_f1 v2_0)), .val (.int v6_0), .unset] [])) t → Steps p.tables e below (s₁.setTop (entryFrame m #[(.int p1), (.int p2)] maxLocals)) t := by
    refine ⟨_, rfl, ?_⟩
    intro t kt
    refine pre5 t ?_
    show Steps p.tables e below (T4.setTop (mkF m 111 #[.val (.int p1), .val (.int p2), .val (.int (p2 &&& (7 : Int32))), .val (.int v2_0), .val (.int (own_f1 v2_0)), .unset, .unset] [(.int (165 : Int32)), (.int v2_0)])) _
    by_cases hc111 : v2_0 = (165 : Int32)
    · (try simp only [if_pos hc111] at kt)
      refine XS.icmpNo X4.here hx rfl (hb hby at_111) rfl (teq hc111).2 ?_
      show Steps p.tables e below (T4.setTop (mkF m 114 #[.val (.int p1), .val (.int p2), .val (.int (p2 &&& (7 : Int32))), .val (.int v2_0), .val (.int (own_f1 v2_0)), .unset, .unset] [])) _
      refine XS.bipush X4.here hx rfl (hb hby at_114) ?_
      show Steps p.tables e below (T4.setTop (mkF m 116 #[.val (.int p1), .val (.int p2), .val (.int (p2 &&& (7 : Int32))), .val (.int v2_0), .val (.int (own_f1 v2_0)), .unset, .unset] [(.int (92 : Int32))])) _
      refine XS.istore X4.here hx rfl (hb hby at_116) rfl (l' := #[.val (.int p1), .val (.int p2), .val (.int (p2 &&& (7 : Int32))), .val (.int v2_0), .val (.int (own_f1 v2_0)), .val (.int (92 : Int32)), .unset]) rfl ?_
      show Steps p.tables e below (T4.setTop (mkF m 118 #[.val (.int p1), .val (.int p2), .val (.int (p2 &&& (7 : Int32))), .val (.int v2_0), .val (.int (own_f1 v2_0)), .val (.int (92 : Int32)), .unset] [])) _
      refine XS.goto X4.here hx rfl (pc0 := 118) (pc' := 138) rfl (hb hby at_118) (by decide) (by decide) ?_
      exact kt
    · (try simp only [if_neg hc111] at kt)
      refine XS.icmpYes X4.here hx rfl (pc0 := 111) (pc' := 121) rfl (hb hby at_111) rfl (feq hc111).2 (by decide) (by decide) ?_
      show Steps p.tables e below (T4.setTop (mkF m 121 #[.val (.int p1), .val (.int p2), .val (.int (p2 &&& (7 : Int32))), .val (.int v2_0), .val (.int (own_f1 v2_0)), .unset, .unset] [])) _
      refine XS.iloadN X4.here hx rfl (hb hby at_121) rfl ?_
      show Steps p.tables e below (T4.setTop (mkF m 122 #[.val (.int p1), .val (.int p2), .val (.int (p2 &&& (7 : Int32))), .val (.int v2_0), .val (.int (own_f1 v2_0)), .unset, .unset] [(.int v2_0)])) _
      refine XS.sipush X4.here hx rfl (hb hby at_122) ?_
      show Steps p.tables e below (T4.setTop (mkF m 125 #[.val (.int p1), .val (.int p2), .val (.int (p2 &&& (7 : Int32))), .val (.int v2_0), .val (.int (own_f1 v2_0)), .unset, .unset] [(.int (8254 : Int32)), (.int v2_0)])) _
      by_cases hc125 : v2_0 = (8254 : Int32)
      · (try simp only [if_pos hc125] at kt)
        refine XS.icmpNo X4.here hx rfl (hb hby at_125) rfl (teq hc125).2 ?_
        show Steps p.tables e below (T4.setTop (mkF m 128 #[.val (.int p1), .val (.int p2), .val (.int (p2 &&& (7 : Int32))), .val (.int v2_0), .val (.int (own_f1 v2_0)), .unset, .unset] [])) _
        refine XS.bipush X4.here hx rfl (hb hby at_128) ?_
        show Steps p.tables e below (T4.setTop (mkF m 130 #[.val (.int p1), .val (.int p2), .val (.int (p2 &&& (7 : Int32))), .val (.int v2_0), .val (.int (own_f1 v2_0)), .unset, .unset] [(.int (126 : Int32))])) _
        refine XS.istore X4.here hx rfl (hb hby at_130) rfl (l' := #[.val (.int p1), .val (.int p2), .val (.int (p2 &&& (7 : Int32))), .val (.int v2_0), .val (.int (own_f1 v2_0)), .val (.int (126 : Int32)), .unset]) rfl ?_
        show Steps p.tables e below (T4.setTop (mkF m 132 #[.val (.int p1), .val (.int p2), .val (.int (p2 &&& (7 : Int32))), .val (.int v2_0), .val (.int (own_f1 v2_0)), .val (.int (126 : Int32)), .unset] [])) _
        refine XS.goto X4.here hx rfl (pc0 := 132) (pc' := 138) rfl (hb hby at_132) (by decide) (by decide) ?_
        exact kt
      · (try simp only [if_neg hc125] at kt)
        refine XS.icmpYes X4.here hx rfl (pc0 := 125) (pc' := 135) rfl (hb hby at_125) rfl (feq hc125).2 (by decide) (by decide) ?_
        show Steps p.tables e below (T4.setTop (mkF m 135 #[.val (.int p1), .val (.int p2), .val (.int (p2 &&& (7 : Int32))), .val (.int v2_0), .val (.int (own_f1 v2_0)), .unset, .unset] [])) _
        refine XS.iconst X4.here hx rfl (hb hby at_135) ?_
        show Steps p.tables e below (T4.setTop (mkF m 136 #[.val (.int p1), .val (.int p2), .val (.int (p2 &&& (7 : Int32))), .val (.int v2_0), .val (.int (own_f1 v2_0)), .unset, .unset] [(.int (-1 : Int32))])) _
        refine XS.istore X4.here hx rfl (hb hby at_136) rfl (l' := #[.val (.int p1), .val (.int p2), .val (.int (p2 &&& (7 : Int32))), .val (.int v2_0), .val (.int (own_f1 v2_0)), .val (.int (-1 : Int32)), .unset]) rfl ?_
        exact kt
  have pre7 : ∀ t, Steps p.tables e below (T4.setTop (mkF m 141 #[.val (.int p1), .val (.int p2), .val (.int (p2 &&& (7 : Int32))), .val (.int v2_0), .val (.int (own_f1 v2_0)), .val (.int v6_0), .unset] [(.int (-1 : Int32)), (.int (own_f1 v2_0))])) t → Steps p.tables e below (s₁.setTop (entryFrame m #[(.int p1), (.int p2)] maxLocals)) t := by
    intro t kt
    refine pre6 t ?_
    show Steps p.tables e below (T4.setTop (mkF m 138 #[.val (.int p1), .val (.int p2), .val (.int (p2 &&& (7 : Int32))), .val (.int v2_0), .val (.int (own_f1 v2_0)), .val (.int v6_0), .unset] [])) _
    refine XS.iload X4.here hx rfl (hb hby at_138) rfl ?_
    show Steps p.tables e below (T4.setTop (mkF m 140 #[.val (.int p1), .val (.int p2), .val (.int (p2 &&& (7 : Int32))), .val (.int v2_0), .val (.int (own_f1 v2_0)), .val (.int v6_0), .unset] [(.int (own_f1 v2_0))])) _
    refine XS.iconst X4.here hx rfl (hb hby at_140) ?_
    exact kt
  obtain ⟨v8_0, hv8_0, pre8⟩ : ∃ (v8_0 : Int32), v8_0 = (if (own_f1 v2_0) = (-1 : Int32) then (1 : Int32) else (if (own_f1 v2_0) < (0 : Int32) then (0 : Int32) else (if (own_f1 v2_0) < (128 : Int32) then (1 : Int32) else (0 : Int32)))) ∧ ∀ t, Steps p.tables e below (T4.setTop (mkF m 162 #[.val (.int p1), .val (.int p2), .val (.int (p2 &&& (7 : Int32))), .val (.int v2_0), .val (.int (own_f1 v2_0)), .val (.int v6_0), .unset] [(.int v8_0)])) t → Steps p.tables e below (s₁.setTop (entryFrame m #[(.int p1), (.int p2)] maxLocals)) t := by
    refine ⟨_, rfl, ?_⟩
    intro t kt
    refine pre7 t ?_
    show Steps p.tables e below (T4.setTop (mkF m 141 #[.val (.int p1), .val (.int p2), .val (.int (p2 &&& (7 : Int32))), .val (.int v2_0), .val (.int (own_f1 v2_0)), .val (.int v6_0), .unset] [(.int (-1 : Int32)), (.int (own_f1 v2_0))])) _
    by_cases hc141 : (own_f1 v2_0) = (-1 : Int32)
    · (try simp only [if_pos hc141] at kt)
      refine XS.icmpYes X4.here hx rfl (pc0 := 141) (pc' := 157) rfl (hb hby at_141) rfl (teq hc141).1 (by decide) (by decide) ?_
      show Steps p.tables e below (T4.setTop (mkF m 157 #[.val (.int p1), .val (.int p2), .val (.int (p2 &&& (7 : Int32))), .val (.int v2_0), .val (.int (own_f1 v2_0)), .val (.int v6_0), .unset] [])) _
      refine XS.iconst X4.here hx rfl (hb hby at_157) ?_
      show Steps p.tables e below (T4.setTop (mkF m 158 #[.val (.int p1), .val (.int p2), .val (.int (p2 &&& (7 : Int32))), .val (.int v2_0), .val (.int (own_f1 v2_0)), .val (.int v6_0), .unset] [(.int (1 : Int32))])) _
      refine XS.goto X4.here hx rfl (pc0 := 158) (pc' := 162) rfl (hb hby at_158) (by decide) (by decide) ?_
      exact kt
    · (try simp only [if_neg hc141] at kt)
      refine XS.icmpNo X4.here hx rfl (hb hby at_141) rfl (feq hc141).1 ?_
      show Steps p.tables e below (T4.setTop (mkF m 144 #[.val (.int p1), .val (.int p2), .val (.int (p2 &&& (7 : Int32))), .val (.int v2_0), .val (.int (own_f1 v2_0)), .val (.int v6_0), .unset] [])) _
      refine XS.iload X4.here hx rfl (hb hby at_144) rfl ?_
      show Steps p.tables e below (T4.setTop (mkF m 146 #[.val (.int p1), .val (.int p2), .val (.int (p2 &&& (7 : Int32))), .val (.int v2_0), .val (.int (own_f1 v2_0)), .val (.int v6_0), .unset] [(.int (own_f1 v2_0))])) _
      by_cases hc146 : (own_f1 v2_0) < (0 : Int32)
      · (try simp only [if_pos hc146] at kt)
        refine XS.ifYes X4.here hx rfl (pc0 := 146) (pc' := 161) rfl (hb hby at_146) rfl ((if0 _ _).trans (tlt hc146).1) (by decide) (by decide) ?_
        show Steps p.tables e below (T4.setTop (mkF m 161 #[.val (.int p1), .val (.int p2), .val (.int (p2 &&& (7 : Int32))), .val (.int v2_0), .val (.int (own_f1 v2_0)), .val (.int v6_0), .unset] [])) _
        refine XS.iconst X4.here hx rfl (hb hby at_161) ?_
        exact kt
      · (try simp only [if_neg hc146] at kt)
        refine XS.ifNo X4.here hx rfl (hb hby at_146) rfl ((if0 _ _).trans (flt hc146).1) ?_
        show Steps p.tables e below (T4.setTop (mkF m 149 #[.val (.int p1), .val (.int p2), .val (.int (p2 &&& (7 : Int32))), .val (.int v2_0), .val (.int (own_f1 v2_0)), .val (.int v6_0), .unset] [])) _
        refine XS.iload X4.here hx rfl (hb hby at_149) rfl ?_
        show Steps p.tables e below (T4.setTop (mkF m 151 #[.val (.int p1), .val (.int p2), .val (.int (p2 &&& (7 : Int32))), .val (.int v2_0), .val (.int (own_f1 v2_0)), .val (.int v6_0), .unset] [(.int (own_f1 v2_0))])) _
        refine XS.sipush X4.here hx rfl (hb hby at_151) ?_
        show Steps p.tables e below (T4.setTop (mkF m 154 #[.val (.int p1), .val (.int p2), .val (.int (p2 &&& (7 : Int32))), .val (.int v2_0), .val (.int (own_f1 v2_0)), .val (.int v6_0), .unset] [(.int (128 : Int32)), (.int (own_f1 v2_0))])) _
        by_cases hc154 : (own_f1 v2_0) < (128 : Int32)
        · (try simp only [if_pos hc154] at kt)
          refine XS.icmpNo X4.here hx rfl (hb hby at_154) rfl (tlt hc154).2.1 ?_
          show Steps p.tables e below (T4.setTop (mkF m 157 #[.val (.int p1), .val (.int p2), .val (.int (p2 &&& (7 : Int32))), .val (.int v2_0), .val (.int (own_f1 v2_0)), .val (.int v6_0), .unset] [])) _
          refine XS.iconst X4.here hx rfl (hb hby at_157) ?_
          show Steps p.tables e below (T4.setTop (mkF m 158 #[.val (.int p1), .val (.int p2), .val (.int (p2 &&& (7 : Int32))), .val (.int v2_0), .val (.int (own_f1 v2_0)), .val (.int v6_0), .unset] [(.int (1 : Int32))])) _
          refine XS.goto X4.here hx rfl (pc0 := 158) (pc' := 162) rfl (hb hby at_158) (by decide) (by decide) ?_
          exact kt
        · (try simp only [if_neg hc154] at kt)
          refine XS.icmpYes X4.here hx rfl (pc0 := 154) (pc' := 161) rfl (hb hby at_154) rfl (flt hc154).2.1 (by decide) (by decide) ?_
          show Steps p.tables e below (T4.setTop (mkF m 161 #[.val (.int p1), .val (.int p2), .val (.int (p2 &&& (7 : Int32))), .val (.int v2_0), .val (.int (own_f1 v2_0)), .val (.int v6_0), .unset] [])) _
          refine XS.iconst X4.here hx rfl (hb hby at_161) ?_
          exact kt
  have pre9 : ∀ t, Steps p.tables e below (T4.setTop (mkF m 168 #[.val (.int p1), .val (.int p2), .val (.int (p2 &&& (7 : Int32))), .val (.int v2_0), .val (.int (own_f1 v2_0)), .val (.int v6_0), .val (.int v8_0)] [(.int v6_0), (.int (own_f1 v2_0))])) t → Steps p.tables e below (s₁.setTop (entryFrame m #[(.int p1), (.int p2)] maxLocals)) t := by
    intro t kt
    refine pre8 t ?_
    show Steps p.tables e below (T4.setTop (mkF m 162 #[.val (.int p1), .val (.int p2), .val (.int (p2 &&& (7 : Int32))), .val (.int v2_0), .val (.int (own_f1 v2_0)), .val (.int v6_0), .unset] [(.int v8_0)])) _
    refine XS.istore X4.here hx rfl (hb hby at_162) rfl (l' := #[.val (.int p1), .val (.int p2), .val (.int (p2 &&& (7 : Int32))), .val (.int v2_0), .val (.int (own_f1 v2_0)), .val (.int v6_0), .val (.int v8_0)]) rfl ?_
    show Steps p.tables e below (T4.setTop (mkF m 164 #[.val (.int p1), .val (.int p2), .val (.int (p2 &&& (7 : Int32))), .val (.int v2_0), .val (.int (own_f1 v2_0)), .val (.int v6_0), .val (.int v8_0)] [])) _
    refine XS.iload X4.here hx rfl (hb hby at_164) rfl ?_
    show Steps p.tables e below (T4.setTop (mkF m 166 #[.val (.int p1), .val (.int p2), .val (.int (p2 &&& (7 : Int32))), .val (.int v2_0), .val (.int (own_f1 v2_0)), .val (.int v6_0), .val (.int v8_0)] [(.int (own_f1 v2_0))])) _
    refine XS.iload X4.here hx rfl (hb hby at_166) rfl ?_
    exact kt
  obtain ⟨v10_0, hv10_0, pre10⟩ : ∃ (v10_0 : Int32), v10_0 = (if (own_f1 v2_0) = v6_0 then (if v8_0 = (0 : Int32) then (0 : Int32) else (1 : Int32)) else (0 : Int32)) ∧ ∀ t, Steps p.tables e below (T4.setTop (mkF m 181 #[.val (.int p1), .val (.int p2), .val (.int (p2 &&& (7 : Int32))), .val (.int v2_0), .val (.int (own_f1 v2_0)), .val (.int v6_0), .val (.int v8_0)] [(.int v10_0)])) t → Steps p.tables e below (s₁.setTop (entryFrame m #[(.int p1), (.int p2)] maxLocals)) t := by
    refine ⟨_, rfl, ?_⟩
    intro t kt
    refine pre9 t ?_
    show Steps p.tables e below (T4.setTop (mkF m 168 #[.val (.int p1), .val (.int p2), .val (.int (p2 &&& (7 : Int32))), .val (.int v2_0), .val (.int (own_f1 v2_0)), .val (.int v6_0), .val (.int v8_0)] [(.int v6_0), (.int (own_f1 v2_0))])) _
    by_cases hc168 : (own_f1 v2_0) = v6_0
    · (try simp only [if_pos hc168] at kt)
      refine XS.icmpNo X4.here hx rfl (hb hby at_168) rfl (teq hc168).2 ?_
      show Steps p.tables e below (T4.setTop (mkF m 171 #[.val (.int p1), .val (.int p2), .val (.int (p2 &&& (7 : Int32))), .val (.int v2_0), .val (.int (own_f1 v2_0)), .val (.int v6_0), .val (.int v8_0)] [])) _
      refine XS.iload X4.here hx rfl (hb hby at_171) rfl ?_
      show Steps p.tables e below (T4.setTop (mkF m 173 #[.val (.int p1), .val (.int p2), .val (.int (p2 &&& (7 : Int32))), .val (.int v2_0), .val (.int (own_f1 v2_0)), .val (.int v6_0), .val (.int v8_0)] [(.int v8_0)])) _
      by_cases hc173 : v8_0 = (0 : Int32)
      · (try simp only [if_pos hc173] at kt)
        refine XS.ifYes X4.here hx rfl (pc0 := 173) (pc' := 180) rfl (hb hby at_173) rfl ((if0 _ _).trans (teq hc173).1) (by decide) (by decide) ?_
        show Steps p.tables e below (T4.setTop (mkF m 180 #[.val (.int p1), .val (.int p2), .val (.int (p2 &&& (7 : Int32))), .val (.int v2_0), .val (.int (own_f1 v2_0)), .val (.int v6_0), .val (.int v8_0)] [])) _
        refine XS.iconst X4.here hx rfl (hb hby at_180) ?_
        exact kt
      · (try simp only [if_neg hc173] at kt)
        refine XS.ifNo X4.here hx rfl (hb hby at_173) rfl ((if0 _ _).trans (feq hc173).1) ?_
        show Steps p.tables e below (T4.setTop (mkF m 176 #[.val (.int p1), .val (.int p2), .val (.int (p2 &&& (7 : Int32))), .val (.int v2_0), .val (.int (own_f1 v2_0)), .val (.int v6_0), .val (.int v8_0)] [])) _
        refine XS.iconst X4.here hx rfl (hb hby at_176) ?_
        show Steps p.tables e below (T4.setTop (mkF m 177 #[.val (.int p1), .val (.int p2), .val (.int (p2 &&& (7 : Int32))), .val (.int v2_0), .val (.int (own_f1 v2_0)), .val (.int v6_0), .val (.int v8_0)] [(.int (1 : Int32))])) _
        refine XS.goto X4.here hx rfl (pc0 := 177) (pc' := 181) rfl (hb hby at_177) (by decide) (by decide) ?_
        exact kt
    · (try simp only [if_neg hc168] at kt)
      refine XS.icmpYes X4.here hx rfl (pc0 := 168) (pc' := 180) rfl (hb hby at_168) rfl (feq hc168).2 (by decide) (by decide) ?_
      show Steps p.tables e below (T4.setTop (mkF m 180 #[.val (.int p1), .val (.int p2), .val (.int (p2 &&& (7 : Int32))), .val (.int v2_0), .val (.int (own_f1 v2_0)), .val (.int v6_0), .val (.int v8_0)] [])) _
      refine XS.iconst X4.here hx rfl (hb hby at_180) ?_
      exact kt
  have hfin : v10_0 = 1 := by
    rw [hv10_0, hv8_0, hv6_0]
    simp only [own_f1, own_f1_28]
    by_cases ha : v2_0 = 165
    · simp [ha]
    · by_cases hb : v2_0 = 8254
      · simp [hb]
      · simp [ha, hb]
  obtain ⟨fs, hr, hrun, hended, hW, hsame⟩ := X4.leave (v := some (.int (1 : Int32))) (fun h => by rw [Bd.returns] at h; cases h)
  refine ⟨_, _, pre10 _ ?_, hrun, hended, _, _, rfl, ?_, ⟨_, rfl⟩, hW, hsame.mono (by decide) (by decide)⟩
  · show Steps p.tables e below (T4.setTop (mkF m 181 #[.val (.int p1), .val (.int p2), .val (.int (p2 &&& (7 : Int32))), .val (.int v2_0), .val (.int (own_f1 v2_0)), .val (.int v6_0), .val (.int v8_0)] [(.int v10_0)])) _
    rw [hfin]
    exact retN X4 hx (t := .boolean) Bd.returns (by simp) (hb hby at_181) hr
  · show Q0 n0 _ T4.heap _
    rw [e4]
    exact ⟨rfl, N4⟩
set_option maxRecDepth 65536 in
set_option maxHeartbeats 40000000 in
theorem comes_1 {Post : Tables → Env → Array Value → State → Outcome → State → Prop} (hpost : ∀ tb e args s v u, (limb_1_1.after args s (.returned v) u = true ∧ limb_1_2.after args s (.returned v) u = true ∧ True) → FrameEnd s (.returned v) u (Jvm.fieldLocs frame_1_writes args s ++ Jvm.arrayLocs frame_1_arrays args s ++ Jvm.staticLocs frame_1_statics s) 0 0 → Post tb e args s (.returned v) u) :
    ArmFor flags0 classFile x code maxLocals ret World_1 tables_1 room_1 Calls_1 rest_1 Pre_1 Post := by
  intro l hfl _ _ p e ha hc hk s m args below hf hA hF happ hP
  obtain ⟨hcalls, hrest, hpre⟩ := hP
  obtain ⟨-, -, -, hnamed, -, -, -, hat⟩ := (Spec.applies_iff hf).mp happ
  obtain ⟨hg, hn⟩ := and_e (Cond.before_iff.mp (show (Jvm.Cond.and given_1 narrow_1).before args s = true from hpre))
  obtain ⟨g1, g2⟩ := and_e hg
  obtain ⟨g3, g4⟩ := and_e g2
  obtain ⟨w0, w1, rfl⟩ : ∃ w0 w1 : Value, args = #[w0, w1] := by
    have hs : args.size = 2 := by simpa [Cond.value, given_1] using g1
    obtain ⟨L⟩ := args
    match L, hs with
    | [w0, w1], _ => exact ⟨w0, w1, rfl⟩
  have hw := fun d (hd : d ∈ tables_1) => atoms_spec (ws := Jvm.Cond.code x code maxLocals ret :: tables_1) hat d (List.mem_cons_of_mem _ hd)
  have hfit : Fit s := fun {y c} hc i hi => by
    obtain ⟨ha, rfl⟩ := Array.getElem?_eq_some_iff.mp hc
    have q := List.all_eq_true.mp ((Array.all_eq_true_iff_forall_mem.mp hF) _ (Array.getElem_mem ha)) i (List.mem_range.mpr hi)
    simpa [Array.getElem?_eq_getElem hi] using q
  obtain ⟨i0, ei0⟩ := is_v g3
  obtain rfl : w0 = (.int i0) := Option.some.inj ei0
  obtain ⟨i1, ei1⟩ := is_v g4
  obtain rfl : w1 = (.int i1) := Option.some.inj ei1
  obtain ⟨n, o, h1, h2, h3, _, L, rfl, ⟨rfl, N⟩, hq⟩ := rm0 l s _ hw tables_1 i0 i1  s.heap s.heap.size (Nat.le_refl _)  p e ha hc hk s m _ below hf ((Spec.applies_iff_loose hf).mp happ).1 ⟨rfl, State.Warmed39.refl s, rfl⟩ trivial
  refine ⟨n, _, h1, h2, h3, hpost _ _ _ _ _ _ ⟨Cond.after_iff.mpr rfl, Cond.after_iff.mpr (eq_i res_at (Term.int_eval (1)) rfl), trivial⟩ ⟨hq.1, hq.2.1, (hq.2.2.sift fun y hy => Or.inr (N y hy)).mono (by decide) (by decide)⟩⟩
theorem main_1_1 : Claimed_1_1 := comes_1 fun _ _ _ _ _ _ h hF => ⟨h.1, hF⟩
theorem main_1_2 : Claimed_1_2 := comes_1 fun _ _ _ _ _ _ h hF => ⟨h.2.1, hF⟩
end Jvm.Pilot.@@N@@
namespace Jvm.Pilot.@@N@@
open Jvm Jvm.ClassFile Sem Op Lib Jvm.Free Jvm.Stand Jvm.Pilot.@@N@@.Jvm.D
/-! MADE BY PROGRAM (witnessworld.py) out of the Statement's table words and the real class files: 9 classes; the members and pool entries that the words name. The judged class is class 1, her method 1. -/
namespace start1
open Jvm.ClassFile
def u (s : String) : CpInfo := .utf8 (stringToUtf16 s)
/-- a pool by its gaps: so many unusable entries, then the entry; so many at the end -/
def gap : Nat → List CpInfo → List CpInfo
  | 0, r => r
  | n + 1, r => .unusable :: gap n r
def poolList (es : List (Nat × CpInfo)) (last : Nat) : List CpInfo := es.foldr (fun e r => gap e.1 (e.2 :: r)) (gap last [])
def pool (es : List (Nat × CpInfo)) (last : Nat) : Array CpInfo := ⟨poolList es last⟩
def fileOf (pool : Array CpInfo) (this : Nat) (attrs : Array Attribute := #[]) (ms : Array MethodInfo := #[]) (fl : Nat := 33) (sup : Nat := 0) (ifs : Array Nat := #[]) (fds : Array FieldInfo := #[]) : ClassFile where
  minorVersion := 0
  majorVersion := 65
  constantPool := pool
  accessFlags := fl
  thisClass := this
  superClass := sup
  interfaces := ifs
  fields := fds
  methods := ms
  attributes := attrs
def plain (name : String) (sup : Option ClassId) : Class where
  name := name
  kind := .ordinary
  loader := none
  accessFlags := 33
  super := sup
  interfaces := #[]
  cf := none
  fields := #[]
  methods := #[]
  instanceTypes := #[]
  staticTypes := #[]
  resolved := #[]
  callSites := []
  init := .initialized
  statics := none
  mirror := none

def pool0 : Array CpInfo := pool [(5, u "<init>"), (0, u "()V"), (1, .class_ 10), (1, u "java/lang/Object")] 113

def k0m0 : Method := { name := "<init>", desc := "()V", sig := { parameters := [], returnType := none }, accessFlags := 1, code := none }
/-- java/lang/Object -/
def k0 : Class := { plain "java/lang/Object" none with
  accessFlags := 33
  interfaces := #[]
  cf := some (fileOf pool0 8 #[] #[{ accessFlags := 1, nameIndex := 5, descriptorIndex := 6, attributes := #[] }] 33 0 #[] #[])
  fields := #[]
  methods := #[k0m0]
  instanceTypes := #[]
  staticTypes := #[]
  resolved := Array.replicate 124 none
  statics := none }

def pool1 : Array CpInfo := pool [(2, .class_ 4), (1, u "java/lang/Object"), (0, u "<init>"), (0, u "()V"), (0, .methodref 8 9), (0, .class_ 10), (0, .nameAndType 11 12), (0, u own_k2), (0, u "romanByte"), (0, u "(I)I"), (0, .class_ 14), (0, u x.cls), (2, u "law"), (0, u "(II)Z")] 3

def k1m0 : Method := { name := "<init>", desc := "()V", sig := { parameters := [], returnType := none }, accessFlags := 2, code := none }
def k1c1 : Code := { maxStack := 2, maxLocals := 7, code := code, exceptionTable := #[], attributes := #[] }
def k1m1 : Method := { name := "law", desc := "(II)Z", sig := { parameters := [.int, .int], returnType := some .boolean }, accessFlags := 9, code := some k1c1 }
def k1 : Class := { plain x.cls (some 0) with
  accessFlags := 49
  interfaces := #[]
  cf := some (fileOf pool1 13 #[] #[{ accessFlags := 2, nameIndex := 5, descriptorIndex := 6, attributes := #[] }, { accessFlags := 9, nameIndex := 17, descriptorIndex := 18, attributes := #[] }] 49 2 #[] #[])
  fields := #[]
  methods := #[k1m0, k1m1]
  instanceTypes := #[]
  staticTypes := #[]
  resolved := Array.replicate 22 none
  statics := none }

def pool2 : Array CpInfo := pool [(2, .class_ 4), (1, u "java/lang/Object"), (0, u "<init>"), (0, u "()V"), (8, .class_ 16), (0, u own_k2), (3, u "NOT_ROMAN"), (0, u "I"), (2, u "HALFWIDTH_KATAKANA_FIRST"), (0, u "HALFWIDTH_KATAKANA_LAST"), (0, u "ROW"), (1, u "YEN_SIGN"), (1, u "OVERLINE"), (1, u "MINUS_SIGN"), (1, u "FULLWIDTH_HYPHEN_MINUS"), (6, u "romanByte"), (0, u "(I)I")] 3

def k2m0 : Method := { name := "<init>", desc := "()V", sig := { parameters := [], returnType := none }, accessFlags := 2, code := none }
def k2c1 : Code := { maxStack := 2, maxLocals := 2, code := prog_41_method_4_code, exceptionTable := #[], attributes := #[] }
def k2m1 : Method := { name := "romanByte", desc := "(I)I", sig := { parameters := [.int], returnType := some .int }, accessFlags := 8, code := some k2c1 }
def k2 : Class := { plain own_k2 (some 0) with
  accessFlags := 48
  interfaces := #[]
  cf := some (fileOf pool2 15 #[] #[{ accessFlags := 2, nameIndex := 5, descriptorIndex := 6, attributes := #[] }, { accessFlags := 8, nameIndex := 41, descriptorIndex := 42, attributes := #[] }] 48 2 #[] #[{ accessFlags := 24, nameIndex := 20, descriptorIndex := 21, attributes := #[] }, { accessFlags := 24, nameIndex := 24, descriptorIndex := 21, attributes := #[] }, { accessFlags := 24, nameIndex := 25, descriptorIndex := 21, attributes := #[] }, { accessFlags := 24, nameIndex := 26, descriptorIndex := 21, attributes := #[] }, { accessFlags := 26, nameIndex := 28, descriptorIndex := 21, attributes := #[] }, { accessFlags := 26, nameIndex := 30, descriptorIndex := 21, attributes := #[] }, { accessFlags := 26, nameIndex := 32, descriptorIndex := 21, attributes := #[] }, { accessFlags := 26, nameIndex := 34, descriptorIndex := 21, attributes := #[] }])
  fields := #[{ name := "NOT_ROMAN", type := .int, accessFlags := 24, slot := 0, constantValue := 0 }, { name := "HALFWIDTH_KATAKANA_FIRST", type := .int, accessFlags := 24, slot := 1, constantValue := 0 }, { name := "HALFWIDTH_KATAKANA_LAST", type := .int, accessFlags := 24, slot := 2, constantValue := 0 }, { name := "ROW", type := .int, accessFlags := 24, slot := 3, constantValue := 0 }, { name := "YEN_SIGN", type := .int, accessFlags := 26, slot := 4, constantValue := 0 }, { name := "OVERLINE", type := .int, accessFlags := 26, slot := 5, constantValue := 0 }, { name := "MINUS_SIGN", type := .int, accessFlags := 26, slot := 6, constantValue := 0 }, { name := "FULLWIDTH_HYPHEN_MINUS", type := .int, accessFlags := 26, slot := 7, constantValue := 0 }]
  methods := #[k2m0, k2m1]
  instanceTypes := #[]
  staticTypes := #[.int, .int, .int, .int, .int, .int, .int, .int]
  resolved := Array.replicate 46 none
  statics := none }

def pool3 : Array CpInfo := pool [(1, u "java/lang/Cloneable"), (0, .class_ 1), (0, u "java/lang/Object"), (0, .class_ 3)] 3

/-- java/lang/Cloneable -/
def k3 : Class := { plain "java/lang/Cloneable" (some 0) with
  accessFlags := 1537
  interfaces := #[]
  cf := some (fileOf pool3 2 #[] #[] 1537 4 #[] #[])
  fields := #[]
  methods := #[]
  instanceTypes := #[]
  staticTypes := #[]
  resolved := Array.replicate 8 none
  statics := none }

def pool4 : Array CpInfo := pool [(1, u "java/io/Serializable"), (0, .class_ 1), (0, u "java/lang/Object"), (0, .class_ 3)] 3

/-- java/io/Serializable -/
def k4 : Class := { plain "java/io/Serializable" (some 0) with
  accessFlags := 1537
  interfaces := #[]
  cf := some (fileOf pool4 2 #[] #[] 1537 4 #[] #[])
  fields := #[]
  methods := #[]
  instanceTypes := #[]
  staticTypes := #[]
  resolved := Array.replicate 8 none
  statics := none }

/-- the primitive byte -/
def k5 : Class := { plain "byte" none with kind := .primitive 'B', accessFlags := 0x411 }
/-- [B -/
def k6 : Class := { plain "[B" (some 0) with kind := .array 5 .byte, interfaces := #[3, 4], accessFlags := 1041 }

/-- the primitive int -/
def k7 : Class := { plain "int" none with kind := .primitive 'I', accessFlags := 0x411 }
/-- [I -/
def k8 : Class := { plain "[I" (some 0) with kind := .array 7 .int, interfaces := #[3, 4], accessFlags := 1041 }

def heap : Heap := #[]
def classes : Array Class := #[k0, k1, k2, k3, k4, k5, k6, k7, k8]
def interned : List (Array UInt16 × Addr) := []
def slotsUsed : Nat := 0
def theMethod : MethodId := ⟨1, 1⟩
def args0 : Array Value := #[.int 5, .int 6]
def aboutOver (below : List Frame) : State where
  vm := { classes := classes, interned := interned.toArray }
  heap := heap
  slotsUsed := slotsUsed
  threads := #[{ frames := .invoking theMethod args0 :: below }]
def below0 : List Frame := [.native { method := ⟨0, 0⟩, args := #[] }]
def about1 : State := aboutOver below0
def p0 : Program := .bare "" "" ""
def e0 : Env := launch0.env 0 0 0
theorem w_frames : about1.frames = Frame.invoking theMethod args0 :: below0 := rfl
set_option maxRecDepth 65536 in
theorem w_args : argsFit about1.vm theMethod args0 = true := by decide +kernel
set_option maxRecDepth 65536 in
theorem w_heap : heapFits about1 = true := by decide +kernel
set_option maxRecDepth 65536 in
theorem w_runnable : about1.curStatus? = some .runnable := by decide +kernel
set_option maxRecDepth 65536 in
theorem w_alone : about1.alone = true := by decide +kernel
set_option maxRecDepth 65536 in
theorem w_named : about1.methodNamed? x = some theMethod := by decide +kernel
set_option maxRecDepth 65536 in
theorem w_hears : about1.hears theMethod below0 = true := by decide +kernel
set_option maxRecDepth 65536 in
theorem w_ripe : about1.ripe theMethod args0 below0 = true := by decide +kernel
theorem w_running : about1.status = .running := rfl
set_option maxRecDepth 65536 in
theorem w_room : about1.hasRoom e0.platform room_1 = true :=
  launch0.hasRoom_least _ room_1 (by decide +kernel) (by decide +kernel) (by decide +kernel) (by decide +kernel) (by decide +kernel) (by decide +kernel)
theorem allAtoms_all (ts : List Jvm.Cond) (a : Array Jvm.Value) (st : Jvm.State) : (allAtoms ts).before a st = ts.all (fun c => c.before a st) := by
  induction ts with
  | nil => rfl
  | cons c t ih =>
    show (Jvm.Cond.and c (allAtoms t)).before a st = _
    rw [Jvm.Cond.before_and, ih, List.all_cons]
def words1 : List Jvm.Cond := Jvm.Cond.code x code maxLocals ret :: tables_1
/-- a 'code' word, met by the world's own term for the bytes: nothing is compared byte by byte -/
theorem code_word {y : MethodName} {bytes : ByteArray} {mx : Nat} {rt : Option FieldType} {a : Array Value} {s : State} {m : MethodId} {meth : Method} {c : Code} (h1 : s.methodNamed? y = some m) (h2 : s.vm.method? m = some meth) (h3 : meth.code = some c) (h4 : c.code = bytes)
    (h5 : (c.maxLocals == mx && c.exceptionTable.isEmpty && decide (c.maxStack ≤ mostOperands) && decide (meth.sig.returnType = rt) && !meth.locks && decide (parseMethodDescriptor y.desc = some meth.sig)) = true) : (Jvm.Cond.code y bytes mx rt).before a s = true := by
  simp only [Bool.and_eq_true, beq_iff_eq, Bool.not_eq_true', decide_eq_true_eq] at h5
  obtain ⟨⟨⟨⟨⟨g1, g2⟩, g3⟩, g4⟩, g5⟩, g6⟩ := h5
  simp [Cond.before, Cond.holds, Cond.value, h1, h2, h3, h4, g1, g2, g3, g4, g5, g6]
def isCode : Jvm.Cond → Bool
  | .code _ _ _ _ => true
  | _ => false
theorem all_split {L : List Jvm.Cond} {P : Jvm.Cond → Bool} (h1 : L.all (fun c => isCode c || P c) = true) (h2 : ∀ c ∈ L.filter isCode, P c = true) : L.all P = true := by
  refine List.all_eq_true.mpr fun c hc => ?_
  have h := List.all_eq_true.mp h1 c hc
  rcases Bool.eq_false_or_eq_true (isCode c) with hi | hi
  · exact h2 c (List.mem_filter.mpr ⟨hc, hi⟩)
  · simpa [hi] using h
set_option maxRecDepth 65536 in
theorem w_c0 : (Jvm.Cond.code x code maxLocals ret).before args0 about1 = true := code_word (m := ⟨1, 1⟩) (meth := k1m1) (c := k1c1) (by decide +kernel) rfl rfl rfl (by decide +kernel)
set_option maxRecDepth 65536 in
theorem w_c1 : (Jvm.Cond.code ({ cls := own_k2, name := "romanByte", desc := "(I)I" } : Jvm.MethodName) prog_41_method_4_code (2 : Nat) (Option.some Jvm.ClassFile.FieldType.int)).before args0 about1 = true := code_word (m := ⟨2, 1⟩) (meth := k2m1) (c := k2c1) (by decide +kernel) rfl rfl rfl (by decide +kernel)
def codes1 : List Jvm.Cond := [Jvm.Cond.code x code maxLocals ret, Jvm.Cond.code ({ cls := own_k2, name := "romanByte", desc := "(I)I" } : Jvm.MethodName) prog_41_method_4_code (2 : Nat) (Option.some Jvm.ClassFile.FieldType.int)]
set_option maxRecDepth 65536 in
theorem codes_eq : words1.filter isCode = codes1 := rfl
theorem w_codes : ∀ c ∈ words1.filter isCode, c.before args0 about1 = true := by
  rw [codes_eq]
  intro c hc
  simp only [codes1, List.mem_cons, List.not_mem_nil, or_false] at hc
  rcases hc with rfl | rfl
  · exact w_c0
  · exact w_c1
set_option maxRecDepth 65536 in
theorem w_t1 : words1.all (fun c => isCode c || c.before args0 about1) = true := by decide +kernel
theorem w_tables : (allAtoms (Jvm.Cond.code x code maxLocals ret :: tables_1)).before args0 about1 = true := by
  rw [allAtoms_all]
  show words1.all (fun c => c.before args0 about1) = true
  refine all_split ?_ w_codes
  rw [w_t1]
set_option maxRecDepth 65536 in
theorem w_case : (Jvm.Cond.and given_1 narrow_1).before args0 about1 = true := by decide +kernel
theorem w_applies : (headSpec (Jvm.Cond.code x code maxLocals ret :: tables_1) room_1).applies x e0.platform about1 = true :=
  (Spec.applies_iff w_frames).mpr ⟨w_running, w_runnable, w_alone, w_named, w_hears, w_ripe, w_room, w_tables⟩
theorem atStart : AtStart classFile x code maxLocals ret World_1 tables_1 room_1 Calls_1 rest_1 Pre_1 launch0 p0 e0 about1 theMethod args0 below0 :=
  ⟨lists_1, trivial, launch0.admits_env _ _ _, launch0.least_env, fairChoices_fair.cas, fairChoices_fair.clock, w_frames, w_args, w_heap, w_applies, trivial, trivial, w_case⟩
end start1
theorem witness_1 : WitnessClaimed_1 := ⟨start1.p0, start1.e0, start1.about1, start1.theMethod, start1.args0, start1.below0, start1.atStart⟩
end Jvm.Pilot.@@N@@
