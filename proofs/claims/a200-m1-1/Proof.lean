import JvmDerived
import JvmDerived.Pilot.@@N@@Statement
import JvmDerived.Pilot.@@N@@Code
set_option linter.unusedVariables false
set_option linter.unusedSimpArgs false
@@BLOCK:NumsL.lean.txt@@
namespace Jvm.RoadKit
open Sem ClassFile Op Lib Jvm.Stand Jvm.Free Jvm.LawKit
section New
variable {p : Program} {l : Launch} {e : Env} {R : Room} {s : State} {m : MethodId} {args : Array Value} {below : List Frame} {meth : Method} {c : Code} {T : State} {locs : List Loc} {cells slots : Nat}
theorem retI (X : Stand p l e R s m args below meth c T locs cells slots) (hx : p.tables.exec = Jvm.exec) {pc : Nat} {Ls : Array Slot} {z : Int32} {rest : List Value} (hret : meth.sig.returnType = some .int) (hd : decode c.code pc = .ok (.ireturn, 1)) {fs : List Frame}
    (hl : ∀ (f : JFrame) (acts : List Action), f.method = m → f.locked = none → f.entered = [] → (doReturn e (T.setTop f) acts (some (.int z))).1 = T.setFrames fs) : Steps p.tables e below (T.setTop (mkF m pc Ls (.int z :: rest))) (T.setFrames fs) := by
  have hm' : T.vm.method? m = some meth := X.method'
  have hn : narrow .int (.int z) = .int z := rfl
  show Steps p.tables e below (T.setTop { method := m, pc := pc, locals := Ls, stack := _ :: rest, locked := none }) _
  jvm_step X.here [X.here.top, hx, hd, hm', hret, hn]
  first | (intro acts; rw [hl _ acts rfl rfl rfl]) | rw [hl _ _ rfl rfl rfl]
  exact Steps.refl _
end New
end Jvm.RoadKit
namespace Jvm.Pilot.@@N@@
open Jvm Jvm.ClassFile Sem Op Lib Jvm.Free Jvm.Stand Jvm.LawKit Jvm.RoadKit Bundle Jvm.Pilot.@@N@@.Jvm.D
def own_k2 : String := match (tables_1[2]? : Option Jvm.Cond) with | some (Jvm.Cond.initialized c) => c | _ => ""
def own_k9 : String := match (tables_1[9]? : Option Jvm.Cond) with | some (Jvm.Cond.initialized c) => c | _ => ""
theorem pn_0 : plainName own_k2 = true := by first | (simp [plainName, overriddenIn]; done) | decide +kernel
theorem pn_1 : plainName own_k9 = true := by first | (simp [plainName, overriddenIn]; done) | decide +kernel
theorem pd_0 : parseMethodDescriptor "(I)I" = some ⟨[.int], some .int⟩ := by decide +kernel
theorem pd_1 : parseMethodDescriptor "([I)Z" = some ⟨[(.array .int)], some .boolean⟩ := by decide +kernel
theorem d1_0 : decode method_2_code 0 = .ok (.iload_n 0, 1) := by decide +kernel
theorem d1_1 : decode method_2_code 1 = .ok (.iconst 1, 1) := by decide +kernel
theorem d1_2 : decode method_2_code 2 = .ok (.iand, 1) := by decide +kernel
theorem d1_3 : decode method_2_code 3 = .ok (.ifCond .eq 11, 3) := by decide +kernel
theorem d1_6 : decode method_2_code 6 = .ok (.iload_n 0, 1) := by decide +kernel
theorem d1_7 : decode method_2_code 7 = .ok (.iconst 1, 1) := by decide +kernel
theorem d1_8 : decode method_2_code 8 = .ok (.iushr, 1) := by decide +kernel
theorem d1_9 : decode method_2_code 9 = .ok (.sipush 255, 3) := by decide +kernel
theorem d1_12 : decode method_2_code 12 = .ok (.iand, 1) := by decide +kernel
theorem d1_13 : decode method_2_code 13 = .ok (.ireturn, 1) := by decide +kernel
theorem d1_14 : decode method_2_code 14 = .ok (.iload_n 0, 1) := by decide +kernel
theorem d1_15 : decode method_2_code 15 = .ok (.iconst 1, 1) := by decide +kernel
theorem d1_16 : decode method_2_code 16 = .ok (.iushr, 1) := by decide +kernel
theorem d1_17 : decode method_2_code 17 = .ok (.ldc 7, 2) := by decide +kernel
theorem d1_19 : decode method_2_code 19 = .ok (.iand, 1) := by decide +kernel
theorem d1_20 : decode method_2_code 20 = .ok (.ldc 8, 2) := by decide +kernel
theorem d1_22 : decode method_2_code 22 = .ok (.irem, 1) := by decide +kernel
theorem d1_23 : decode method_2_code 23 = .ok (.ireturn, 1) := by decide +kernel
def own_f1 (p1 : Int32) : Int32 := (if (p1 &&& (1 : Int32)) = (0 : Int32) then ((((p1.toUInt32 >>> ((1 : Int32) &&& 31).toUInt32).toInt32) &&& (2097151 : Int32)) % (1114112 : Int32)) else (((p1.toUInt32 >>> ((1 : Int32) &&& 31).toUInt32).toInt32) &&& (255 : Int32)))
def Q1 (p1 : Int32) (h0 : Heap) (n0 : Nat) (v : Option Value) (h : Heap) (L : List Loc) : Prop := v = some (.int (own_f1 p1)) ∧ Fr n0 L ∧ h = h0
theorem ef_1 (m : MethodId) (x0 : Int32) : entryFrame m #[(.int x0)] 1 = mkF m 0 #[.val (.int x0)] [] := by first | (simp [entryFrame, mkF, argsToLocals, Value.category]; done) | rfl
set_option maxRecDepth 65536 in
set_option maxHeartbeats 40000000 in
theorem rm1 (l : Launch) (Z : State) (a0 : Array Value) (hw : ∀ d ∈ tables_1, d.before a0 Z = true) (ws : List Jvm.Cond) (p1 : Int32) (h0 : Heap) (n0 : Nat) :
    MetFree l (⟨own_k2, "cp", "(I)I"⟩ : MethodName) (head1 (Jvm.Cond.code (⟨own_k2, "cp", "(I)I"⟩ : MethodName) method_2_code 1 (some .int) :: ws) ({ frames := 0, cells := 0, slots := 0, locals := 0 } : Room)) (fun a U => a = #[(.int p1)] ∧ Z.Warmed39 U.vm ∧ U.heap = h0) (fun _ _ _ _ _ => True) (fun _ U o U' => ∃ v L, o = .returned v ∧ Q1 p1 h0 n0 v U'.heap L ∧ FrameEnd U o U' L ({ frames := 0, cells := 0, slots := 0, locals := 0 } : Room).cells ({ frames := 0, cells := 0, slots := 0, locals := 0 } : Room).slots) := by
  refine MetFree.of_bodySF (plainFor_of_name pn_0) hisR ?_
  intro p e s m args below meth c s₁ Bd hml0 hP hK
  obtain ⟨rfl, hZ, hh⟩ := hP
  have hx := Bd.exec
  have hby := Bd.bytes
  have hml : c.maxLocals = 1 := hml0
  have hown : s.vm.findClass own_k2 = some m.cls := findClass_of_methodNamed Bd.named
  have hnm := (name_of_methodNamed Bd.named Bd.method).1
  have X0 : Stand p l e ({ frames := 0, cells := 0, slots := 0, locals := 0 } : Room) s m #[(.int p1)] below meth c s₁ [] 0 0 := Stand.of_body Bd
  have e0 : s₁.heap = h0 := by rw [← hh, Bd.state]; rfl
  have N0 := Fr.nil n0
  have pre0 : ∀ t, Steps p.tables e below (s₁.setTop (mkF m 0 #[.val (.int p1)] [])) t → Steps p.tables e below (s₁.setTop (entryFrame m #[(.int p1)] 1)) t := fun t k => castTop (ef_1 m p1) k
  obtain ⟨fs, hr, hrun, hended, hW, hsame⟩ := X0.leave (v := some (.int (own_f1 p1))) (fun h => by rw [Bd.returns] at h; cases h)
  refine ⟨_, _, pre0 _ ?_, hrun, hended, _, _, rfl, ?_, ⟨_, rfl⟩, hW, hsame.mono (by decide) (by decide)⟩
  · skip
    have J0 : ∀ (hv : own_f1 p1 = own_f1 p1 ), Steps p.tables e below (s₁.setTop (mkF m 0 #[.val (.int p1)] [])) (s₁.setFrames fs) := by
      intro hv
      show Steps p.tables e below (s₁.setTop (mkF m 0 #[.val (.int p1)] [])) _
      refine XS.iloadN X0.here hx rfl (hb hby d1_0) rfl ?_
      show Steps p.tables e below (s₁.setTop (mkF m 1 #[.val (.int p1)] [(.int p1)])) _
      refine XS.iconst X0.here hx rfl (hb hby d1_1) ?_
      show Steps p.tables e below (s₁.setTop (mkF m 2 #[.val (.int p1)] [(.int (1 : Int32)), (.int p1)])) _
      refine XS.iand X0.here hx rfl (hb hby d1_2) rfl ?_
      show Steps p.tables e below (s₁.setTop (mkF m 3 #[.val (.int p1)] [(.int (p1 &&& (1 : Int32)))])) _
      by_cases hc3 : (p1 &&& (1 : Int32)) = (0 : Int32)
      · replace hv := hv.trans (if_pos hc3)
        refine XS.ifYes X0.here hx rfl (pc0 := 3) (pc' := 14) rfl (hb hby d1_3) rfl ((if0 _ _).trans (teq hc3).1) (by decide) (by decide) ?_
        show Steps p.tables e below (s₁.setTop (mkF m 14 #[.val (.int p1)] [])) _
        refine XS.iloadN X0.here hx rfl (hb hby d1_14) rfl ?_
        show Steps p.tables e below (s₁.setTop (mkF m 15 #[.val (.int p1)] [(.int p1)])) _
        refine XS.iconst X0.here hx rfl (hb hby d1_15) ?_
        show Steps p.tables e below (s₁.setTop (mkF m 16 #[.val (.int p1)] [(.int (1 : Int32)), (.int p1)])) _
        refine XS.iushr X0.here hx rfl (hb hby d1_16) rfl ?_
        show Steps p.tables e below (s₁.setTop (mkF m 17 #[.val (.int p1)] [(.int ((p1.toUInt32 >>> ((1 : Int32) &&& 31).toUInt32).toInt32))])) _
        refine X0.ldcInt hx hown (mvT hZ (hw _ (List.mem_of_getElem? (i := 4) rfl))) (g := (mkF m 17 #[.val (.int p1)] [(.int ((p1.toUInt32 >>> ((1 : Int32) &&& 31).toUInt32).toInt32))])) rfl (hb hby d1_17) _ ?_
        show Steps p.tables e below (s₁.setTop (mkF m 19 #[.val (.int p1)] [(.int (2097151 : Int32)), (.int ((p1.toUInt32 >>> ((1 : Int32) &&& 31).toUInt32).toInt32))])) _
        refine XS.iand X0.here hx rfl (hb hby d1_19) rfl ?_
        show Steps p.tables e below (s₁.setTop (mkF m 20 #[.val (.int p1)] [(.int (((p1.toUInt32 >>> ((1 : Int32) &&& 31).toUInt32).toInt32) &&& (2097151 : Int32)))])) _
        refine X0.ldcInt hx hown (mvT hZ (hw _ (List.mem_of_getElem? (i := 5) rfl))) (g := (mkF m 20 #[.val (.int p1)] [(.int (((p1.toUInt32 >>> ((1 : Int32) &&& 31).toUInt32).toInt32) &&& (2097151 : Int32)))])) rfl (hb hby d1_20) _ ?_
        show Steps p.tables e below (s₁.setTop (mkF m 22 #[.val (.int p1)] [(.int (1114112 : Int32)), (.int (((p1.toUInt32 >>> ((1 : Int32) &&& 31).toUInt32).toInt32) &&& (2097151 : Int32)))])) _
        refine iremM X0 hx rfl (hb hby d1_22) rfl (by decide) ?_
        show Steps p.tables e below (s₁.setTop (mkF m 23 #[.val (.int p1)] [(.int ((((p1.toUInt32 >>> ((1 : Int32) &&& 31).toUInt32).toInt32) &&& (2097151 : Int32)) % (1114112 : Int32)))])) _
        rw [hv] at hr
        exact retI X0 hx Bd.returns (hb hby d1_23) hr
      · replace hv := hv.trans (if_neg hc3)
        refine XS.ifNo X0.here hx rfl (hb hby d1_3) rfl ((if0 _ _).trans (feq hc3).1) ?_
        show Steps p.tables e below (s₁.setTop (mkF m 6 #[.val (.int p1)] [])) _
        refine XS.iloadN X0.here hx rfl (hb hby d1_6) rfl ?_
        show Steps p.tables e below (s₁.setTop (mkF m 7 #[.val (.int p1)] [(.int p1)])) _
        refine XS.iconst X0.here hx rfl (hb hby d1_7) ?_
        show Steps p.tables e below (s₁.setTop (mkF m 8 #[.val (.int p1)] [(.int (1 : Int32)), (.int p1)])) _
        refine XS.iushr X0.here hx rfl (hb hby d1_8) rfl ?_
        show Steps p.tables e below (s₁.setTop (mkF m 9 #[.val (.int p1)] [(.int ((p1.toUInt32 >>> ((1 : Int32) &&& 31).toUInt32).toInt32))])) _
        refine XS.sipush X0.here hx rfl (hb hby d1_9) ?_
        show Steps p.tables e below (s₁.setTop (mkF m 12 #[.val (.int p1)] [(.int (255 : Int32)), (.int ((p1.toUInt32 >>> ((1 : Int32) &&& 31).toUInt32).toInt32))])) _
        refine XS.iand X0.here hx rfl (hb hby d1_12) rfl ?_
        show Steps p.tables e below (s₁.setTop (mkF m 13 #[.val (.int p1)] [(.int (((p1.toUInt32 >>> ((1 : Int32) &&& 31).toUInt32).toInt32) &&& (255 : Int32)))])) _
        rw [hv] at hr
        exact retI X0 hx Bd.returns (hb hby d1_13) hr
    exact J0 rfl
  · show Q1 p1 h0 n0 _ s₁.heap _
    rw [e0]
    exact ⟨rfl, N0, rfl⟩

theorem own_and3 (x : Int32) : (x &&& (3 : Int32)) = 0 ∨ (x &&& (3 : Int32)) = 1 ∨ (x &&& (3 : Int32)) = 2 ∨ (x &&& (3 : Int32)) = 3 := by
  have e := Jvm.Kit.i32_mask x 3 (k := 2) (by decide) (by decide)
  have h : (x &&& 3).toInt = 0 ∨ (x &&& 3).toInt = 1 ∨ (x &&& 3).toInt = 2 ∨ (x &&& 3).toInt = 3 := by rw [e]; omega
  rcases h with h | h | h | h
  · exact Or.inl (Int32.toInt_inj.mp (h.trans (by decide)))
  · exact Or.inr (Or.inl (Int32.toInt_inj.mp (h.trans (by decide))))
  · exact Or.inr (Or.inr (Or.inl (Int32.toInt_inj.mp (h.trans (by decide)))))
  · exact Or.inr (Or.inr (Or.inr (Int32.toInt_inj.mp (h.trans (by decide)))))

def Qrm2_0 (Z : State) (a1 : Addr) (kd : ClassId) (h0 : Heap) (n0 : Nat) (v : Option Value) (h : Heap) (L : List Loc) : Prop := v = some (.int (1 : Int32)) ∧ Fr n0 L ∧ h = h0
theorem d2_0 : decode prog_25_method_4_code 0 = .ok (.aload_n 0, 1) := by decide +kernel
theorem d2_1 : decode prog_25_method_4_code 1 = .ok (.astore_n 1, 1) := by decide +kernel
theorem d2_2 : decode prog_25_method_4_code 2 = .ok (.aload_n 1, 1) := by decide +kernel
theorem d2_3 : decode prog_25_method_4_code 3 = .ok (.arraylength, 1) := by decide +kernel
theorem d2_4 : decode prog_25_method_4_code 4 = .ok (.istore_n 2, 1) := by decide +kernel
theorem d2_5 : decode prog_25_method_4_code 5 = .ok (.iconst 0, 1) := by decide +kernel
theorem d2_6 : decode prog_25_method_4_code 6 = .ok (.istore_n 3, 1) := by decide +kernel
theorem d2_7 : decode prog_25_method_4_code 7 = .ok (.iload_n 3, 1) := by decide +kernel
theorem d2_8 : decode prog_25_method_4_code 8 = .ok (.iload_n 2, 1) := by decide +kernel
theorem d2_9 : decode prog_25_method_4_code 9 = .ok (.if_icmp .ge 24, 3) := by decide +kernel
theorem d2_33 : decode prog_25_method_4_code 33 = .ok (.iconst 1, 1) := by decide +kernel
theorem d2_34 : decode prog_25_method_4_code 34 = .ok (.ireturn, 1) := by decide +kernel
theorem ef_2 (m : MethodId) (x0 : Addr) : entryFrame m #[(.ref x0)] 5 = mkF m 0 #[.val (.ref x0), .unset, .unset, .unset, .unset] [] := by first | (simp [entryFrame, mkF, argsToLocals, Value.category]; done) | rfl
set_option maxRecDepth 65536 in
set_option maxHeartbeats 40000000 in
theorem rm2_0 (l : Launch) (Z : State) (a0 : Array Value) (hw : ∀ d ∈ tables_1, d.before a0 Z = true) (ws : List Jvm.Cond) (a1 : Addr) (kd : ClassId) (h0 : Heap) (n0 : Nat) (Z0 : n0 ≤ h0.size) (V_a1 : Arv Z h0 a1 kd .int (0 : Int32) [] (.int (0 : Int32))) :
    MetFree l (⟨own_k9, "isAscii", "([I)Z"⟩ : MethodName) (head1 (Jvm.Cond.code (⟨own_k9, "isAscii", "([I)Z"⟩ : MethodName) prog_25_method_4_code 5 (some .boolean) :: ws) ({ frames := 0, cells := 0, slots := 0, locals := 0 } : Room)) (fun a U => a = #[(.ref a1)] ∧ Z.Warmed39 U.vm ∧ U.heap = h0) (fun _ _ _ _ _ => True) (fun _ U o U' => ∃ v L, o = .returned v ∧ Qrm2_0 Z a1 kd h0 n0 v U'.heap L ∧ FrameEnd U o U' L ({ frames := 0, cells := 0, slots := 0, locals := 0 } : Room).cells ({ frames := 0, cells := 0, slots := 0, locals := 0 } : Room).slots) := by
  refine MetFree.of_bodySF (plainFor_of_name pn_1) hisR ?_
  intro p e s m args below meth c s₁ Bd hml0 hP hK
  obtain ⟨rfl, hZ, hh⟩ := hP
  have hx := Bd.exec
  have hby := Bd.bytes
  have hml : c.maxLocals = 5 := hml0
  have hown : s.vm.findClass own_k9 = some m.cls := findClass_of_methodNamed Bd.named
  have hnm := (name_of_methodNamed Bd.named Bd.method).1
  have X0 : Stand p l e ({ frames := 0, cells := 0, slots := 0, locals := 0 } : Room) s m #[(.ref a1)] below meth c s₁ [] 0 0 := Stand.of_body Bd
  have e0 : s₁.heap = h0 := by rw [← hh, Bd.state]; rfl
  have N0 := Fr.nil n0
  have pre0 : ∀ t, Steps p.tables e below (s₁.setTop (mkF m 0 #[.val (.ref a1), .unset, .unset, .unset, .unset] [])) t → Steps p.tables e below (s₁.setTop (entryFrame m #[(.ref a1)] 5)) t := fun t k => castTop (ef_2 m a1) k
  have pre2 : ∀ t, Steps p.tables e below (s₁.setTop (mkF m 34 #[.val (.ref a1), .val (.ref a1), .val (.int (0 : Int32)), .val (.int (0 : Int32)), .unset] [(.int (1 : Int32))])) t → Steps p.tables e below (s₁.setTop (entryFrame m #[(.ref a1)] 5)) t := by
    intro t kt
    refine pre0 t ?_
    show Steps p.tables e below (s₁.setTop (mkF m 0 #[.val (.ref a1), .unset, .unset, .unset, .unset] [])) _
    refine XS.aloadN X0.here hx rfl (hb hby d2_0) rfl rfl ?_
    show Steps p.tables e below (s₁.setTop (mkF m 1 #[.val (.ref a1), .unset, .unset, .unset, .unset] [(.ref a1)])) _
    refine XS.astoreN X0.here hx rfl (hb hby d2_1) rfl rfl (l' := #[.val (.ref a1), .val (.ref a1), .unset, .unset, .unset]) rfl ?_
    show Steps p.tables e below (s₁.setTop (mkF m 2 #[.val (.ref a1), .val (.ref a1), .unset, .unset, .unset] [])) _
    refine XS.aloadN X0.here hx rfl (hb hby d2_2) rfl rfl ?_
    show Steps p.tables e below (s₁.setTop (mkF m 3 #[.val (.ref a1), .val (.ref a1), .unset, .unset, .unset] [(.ref a1)])) _
    obtain ⟨cl1, Ar1, -, S1, M1, -, -⟩ := (id V_a1)
    refine X0.arraylength hx (by rw [e0]; exact Ar1.1) (State.isArrayOf_alike hZ.alike Ar1.2.1) (g := (mkF m 3 #[.val (.ref a1), .val (.ref a1), .unset, .unset, .unset] [(.ref a1)])) rfl rfl (hb hby d2_3) _ ?_
    rw [len_of S1 M1]
    show Steps p.tables e below (s₁.setTop (mkF m 4 #[.val (.ref a1), .val (.ref a1), .unset, .unset, .unset] [(.int (0 : Int32))])) _
    refine XS.istoreN X0.here hx rfl (hb hby d2_4) rfl (l' := #[.val (.ref a1), .val (.ref a1), .val (.int (0 : Int32)), .unset, .unset]) rfl ?_
    show Steps p.tables e below (s₁.setTop (mkF m 5 #[.val (.ref a1), .val (.ref a1), .val (.int (0 : Int32)), .unset, .unset] [])) _
    refine XS.iconst X0.here hx rfl (hb hby d2_5) ?_
    show Steps p.tables e below (s₁.setTop (mkF m 6 #[.val (.ref a1), .val (.ref a1), .val (.int (0 : Int32)), .unset, .unset] [(.int (0 : Int32))])) _
    refine XS.istoreN X0.here hx rfl (hb hby d2_6) rfl (l' := #[.val (.ref a1), .val (.ref a1), .val (.int (0 : Int32)), .val (.int (0 : Int32)), .unset]) rfl ?_
    show Steps p.tables e below (s₁.setTop (mkF m 7 #[.val (.ref a1), .val (.ref a1), .val (.int (0 : Int32)), .val (.int (0 : Int32)), .unset] [])) _
    refine XS.iloadN X0.here hx rfl (hb hby d2_7) rfl ?_
    show Steps p.tables e below (s₁.setTop (mkF m 8 #[.val (.ref a1), .val (.ref a1), .val (.int (0 : Int32)), .val (.int (0 : Int32)), .unset] [(.int (0 : Int32))])) _
    refine XS.iloadN X0.here hx rfl (hb hby d2_8) rfl ?_
    show Steps p.tables e below (s₁.setTop (mkF m 9 #[.val (.ref a1), .val (.ref a1), .val (.int (0 : Int32)), .val (.int (0 : Int32)), .unset] [(.int (0 : Int32)), (.int (0 : Int32))])) _
    refine XS.icmpYes X0.here hx rfl (pc0 := 9) (pc' := 33) rfl (hb hby d2_9) rfl (flt (by decide)).2.1 (by decide) (by decide) ?_
    show Steps p.tables e below (s₁.setTop (mkF m 33 #[.val (.ref a1), .val (.ref a1), .val (.int (0 : Int32)), .val (.int (0 : Int32)), .unset] [])) _
    refine XS.iconst X0.here hx rfl (hb hby d2_33) ?_
    exact kt
  obtain ⟨fs, hr, hrun, hended, hW, hsame⟩ := X0.leave (v := some (.int (1 : Int32))) (fun h => by rw [Bd.returns] at h; cases h)
  refine ⟨_, _, pre2 _ ?_, hrun, hended, _, _, rfl, ?_, ⟨_, rfl⟩, hW, hsame.mono (by decide) (by decide)⟩
  · show Steps p.tables e below (s₁.setTop (mkF m 34 #[.val (.ref a1), .val (.ref a1), .val (.int (0 : Int32)), .val (.int (0 : Int32)), .unset] [(.int (1 : Int32))])) _
    exact retN X0 hx (t := .boolean) Bd.returns (by simp) (hb hby d2_34) hr
  · show Qrm2_0 Z a1 kd h0 n0 _ s₁.heap _
    rw [e0]
    exact ⟨rfl, N0, rfl⟩
def Qrm2_1 (Z : State) (a1 : Addr) (kd : ClassId) (w0 : Int32) (h0 : Heap) (n0 : Nat) (v : Option Value) (h : Heap) (L : List Loc) : Prop := v = some (.int (if w0 < (128 : Int32) then (1 : Int32) else (0 : Int32))) ∧ Fr n0 L ∧ h = h0
theorem d2_12 : decode prog_25_method_4_code 12 = .ok (.aload_n 1, 1) := by decide +kernel
theorem d2_13 : decode prog_25_method_4_code 13 = .ok (.iload_n 3, 1) := by decide +kernel
theorem d2_14 : decode prog_25_method_4_code 14 = .ok (.iaload, 1) := by decide +kernel
theorem d2_15 : decode prog_25_method_4_code 15 = .ok (.istore 4, 2) := by decide +kernel
theorem d2_17 : decode prog_25_method_4_code 17 = .ok (.iload 4, 2) := by decide +kernel
theorem d2_19 : decode prog_25_method_4_code 19 = .ok (.sipush 128, 3) := by decide +kernel
theorem d2_22 : decode prog_25_method_4_code 22 = .ok (.if_icmp .lt 5, 3) := by decide +kernel
theorem d2_25 : decode prog_25_method_4_code 25 = .ok (.iconst 0, 1) := by decide +kernel
theorem d2_26 : decode prog_25_method_4_code 26 = .ok (.ireturn, 1) := by decide +kernel
theorem d2_27 : decode prog_25_method_4_code 27 = .ok (.iinc 3 1, 3) := by decide +kernel
theorem d2_30 : decode prog_25_method_4_code 30 = .ok (.goto (-23), 3) := by decide +kernel

set_option maxRecDepth 65536 in
set_option maxHeartbeats 40000000 in
theorem rm2_1 (l : Launch) (Z : State) (a0 : Array Value) (hw : ∀ d ∈ tables_1, d.before a0 Z = true) (ws : List Jvm.Cond) (a1 : Addr) (kd : ClassId) (w0 : Int32) (h0 : Heap) (n0 : Nat) (Z0 : n0 ≤ h0.size) (V_a1 : Arv Z h0 a1 kd .int (1 : Int32) [(.int w0)] (.int (0 : Int32))) :
    MetFree l (⟨own_k9, "isAscii", "([I)Z"⟩ : MethodName) (head1 (Jvm.Cond.code (⟨own_k9, "isAscii", "([I)Z"⟩ : MethodName) prog_25_method_4_code 5 (some .boolean) :: ws) ({ frames := 0, cells := 0, slots := 0, locals := 0 } : Room)) (fun a U => a = #[(.ref a1)] ∧ Z.Warmed39 U.vm ∧ U.heap = h0) (fun _ _ _ _ _ => True) (fun _ U o U' => ∃ v L, o = .returned v ∧ Qrm2_1 Z a1 kd w0 h0 n0 v U'.heap L ∧ FrameEnd U o U' L ({ frames := 0, cells := 0, slots := 0, locals := 0 } : Room).cells ({ frames := 0, cells := 0, slots := 0, locals := 0 } : Room).slots) := by
  refine MetFree.of_bodySF (plainFor_of_name pn_1) hisR ?_
  intro p e s m args below meth c s₁ Bd hml0 hP hK
  obtain ⟨rfl, hZ, hh⟩ := hP
  have hx := Bd.exec
  have hby := Bd.bytes
  have hml : c.maxLocals = 5 := hml0
  have hown : s.vm.findClass own_k9 = some m.cls := findClass_of_methodNamed Bd.named
  have hnm := (name_of_methodNamed Bd.named Bd.method).1
  have X0 : Stand p l e ({ frames := 0, cells := 0, slots := 0, locals := 0 } : Room) s m #[(.ref a1)] below meth c s₁ [] 0 0 := Stand.of_body Bd
  have e0 : s₁.heap = h0 := by rw [← hh, Bd.state]; rfl
  have N0 := Fr.nil n0
  have pre0 : ∀ t, Steps p.tables e below (s₁.setTop (mkF m 0 #[.val (.ref a1), .unset, .unset, .unset, .unset] [])) t → Steps p.tables e below (s₁.setTop (entryFrame m #[(.ref a1)] 5)) t := fun t k => castTop (ef_2 m a1) k
  have pre3 : ∀ t, Steps p.tables e below (s₁.setTop (mkF m 22 #[.val (.ref a1), .val (.ref a1), .val (.int (1 : Int32)), .val (.int (0 : Int32)), .val (.int w0)] [(.int (128 : Int32)), (.int w0)])) t → Steps p.tables e below (s₁.setTop (entryFrame m #[(.ref a1)] 5)) t := by
    intro t kt
    refine pre0 t ?_
    show Steps p.tables e below (s₁.setTop (mkF m 0 #[.val (.ref a1), .unset, .unset, .unset, .unset] [])) _
    refine XS.aloadN X0.here hx rfl (hb hby d2_0) rfl rfl ?_
    show Steps p.tables e below (s₁.setTop (mkF m 1 #[.val (.ref a1), .unset, .unset, .unset, .unset] [(.ref a1)])) _
    refine XS.astoreN X0.here hx rfl (hb hby d2_1) rfl rfl (l' := #[.val (.ref a1), .val (.ref a1), .unset, .unset, .unset]) rfl ?_
    show Steps p.tables e below (s₁.setTop (mkF m 2 #[.val (.ref a1), .val (.ref a1), .unset, .unset, .unset] [])) _
    refine XS.aloadN X0.here hx rfl (hb hby d2_2) rfl rfl ?_
    show Steps p.tables e below (s₁.setTop (mkF m 3 #[.val (.ref a1), .val (.ref a1), .unset, .unset, .unset] [(.ref a1)])) _
    obtain ⟨cl1, Ar1, -, S1, M1, -, -⟩ := (id V_a1)
    refine X0.arraylength hx (by rw [e0]; exact Ar1.1) (State.isArrayOf_alike hZ.alike Ar1.2.1) (g := (mkF m 3 #[.val (.ref a1), .val (.ref a1), .unset, .unset, .unset] [(.ref a1)])) rfl rfl (hb hby d2_3) _ ?_
    rw [len_of S1 M1]
    show Steps p.tables e below (s₁.setTop (mkF m 4 #[.val (.ref a1), .val (.ref a1), .unset, .unset, .unset] [(.int (1 : Int32))])) _
    refine XS.istoreN X0.here hx rfl (hb hby d2_4) rfl (l' := #[.val (.ref a1), .val (.ref a1), .val (.int (1 : Int32)), .unset, .unset]) rfl ?_
    show Steps p.tables e below (s₁.setTop (mkF m 5 #[.val (.ref a1), .val (.ref a1), .val (.int (1 : Int32)), .unset, .unset] [])) _
    refine XS.iconst X0.here hx rfl (hb hby d2_5) ?_
    show Steps p.tables e below (s₁.setTop (mkF m 6 #[.val (.ref a1), .val (.ref a1), .val (.int (1 : Int32)), .unset, .unset] [(.int (0 : Int32))])) _
    refine XS.istoreN X0.here hx rfl (hb hby d2_6) rfl (l' := #[.val (.ref a1), .val (.ref a1), .val (.int (1 : Int32)), .val (.int (0 : Int32)), .unset]) rfl ?_
    show Steps p.tables e below (s₁.setTop (mkF m 7 #[.val (.ref a1), .val (.ref a1), .val (.int (1 : Int32)), .val (.int (0 : Int32)), .unset] [])) _
    refine XS.iloadN X0.here hx rfl (hb hby d2_7) rfl ?_
    show Steps p.tables e below (s₁.setTop (mkF m 8 #[.val (.ref a1), .val (.ref a1), .val (.int (1 : Int32)), .val (.int (0 : Int32)), .unset] [(.int (0 : Int32))])) _
    refine XS.iloadN X0.here hx rfl (hb hby d2_8) rfl ?_
    show Steps p.tables e below (s₁.setTop (mkF m 9 #[.val (.ref a1), .val (.ref a1), .val (.int (1 : Int32)), .val (.int (0 : Int32)), .unset] [(.int (1 : Int32)), (.int (0 : Int32))])) _
    refine XS.icmpNo X0.here hx rfl (hb hby d2_9) rfl (tlt (by decide)).2.1 ?_
    show Steps p.tables e below (s₁.setTop (mkF m 12 #[.val (.ref a1), .val (.ref a1), .val (.int (1 : Int32)), .val (.int (0 : Int32)), .unset] [])) _
    refine XS.aloadN X0.here hx rfl (hb hby d2_12) rfl rfl ?_
    show Steps p.tables e below (s₁.setTop (mkF m 13 #[.val (.ref a1), .val (.ref a1), .val (.int (1 : Int32)), .val (.int (0 : Int32)), .unset] [(.ref a1)])) _
    refine XS.iloadN X0.here hx rfl (hb hby d2_13) rfl ?_
    show Steps p.tables e below (s₁.setTop (mkF m 14 #[.val (.ref a1), .val (.ref a1), .val (.int (1 : Int32)), .val (.int (0 : Int32)), .unset] [(.int (0 : Int32)), (.ref a1)])) _
    obtain ⟨cl2, Ar2, -, S2, M2, H2, -⟩ := (id V_a1)
    have hin2 : ¬ ((0 : Int32) < 0 ∨ cl2.slots.size ≤ ((0 : Int32)).toNatClampNeg) := inb_of S2 ⟨by decide, by decide⟩
    refine X0.iaload hx (j := (0 : Int32)) (v := (.int w0)) (by rw [e0]; exact Ar2.1) (State.isArrayOf_alike hZ.alike Ar2.2.1) Ar2.2.2 hin2 (H2.at hin2 rfl) (g := (mkF m 14 #[.val (.ref a1), .val (.ref a1), .val (.int (1 : Int32)), .val (.int (0 : Int32)), .unset] [(.int (0 : Int32)), (.ref a1)])) rfl rfl (hb hby d2_14) _ ?_
    show Steps p.tables e below (s₁.setTop (mkF m 15 #[.val (.ref a1), .val (.ref a1), .val (.int (1 : Int32)), .val (.int (0 : Int32)), .unset] [(.int w0)])) _
    refine XS.istore X0.here hx rfl (hb hby d2_15) rfl (l' := #[.val (.ref a1), .val (.ref a1), .val (.int (1 : Int32)), .val (.int (0 : Int32)), .val (.int w0)]) rfl ?_
    show Steps p.tables e below (s₁.setTop (mkF m 17 #[.val (.ref a1), .val (.ref a1), .val (.int (1 : Int32)), .val (.int (0 : Int32)), .val (.int w0)] [])) _
    refine XS.iload X0.here hx rfl (hb hby d2_17) rfl ?_
    show Steps p.tables e below (s₁.setTop (mkF m 19 #[.val (.ref a1), .val (.ref a1), .val (.int (1 : Int32)), .val (.int (0 : Int32)), .val (.int w0)] [(.int w0)])) _
    refine XS.sipush X0.here hx rfl (hb hby d2_19) ?_
    exact kt
  by_cases hc22 : w0 < (128 : Int32)
  · have pre4 : ∀ t, Steps p.tables e below (s₁.setTop (mkF m 27 #[.val (.ref a1), .val (.ref a1), .val (.int (1 : Int32)), .val (.int (0 : Int32)), .val (.int w0)] [])) t → Steps p.tables e below (s₁.setTop (entryFrame m #[(.ref a1)] 5)) t := by
      intro t kt
      refine pre3 t ?_
      show Steps p.tables e below (s₁.setTop (mkF m 22 #[.val (.ref a1), .val (.ref a1), .val (.int (1 : Int32)), .val (.int (0 : Int32)), .val (.int w0)] [(.int (128 : Int32)), (.int w0)])) _
      refine XS.icmpYes X0.here hx rfl (pc0 := 22) (pc' := 27) rfl (hb hby d2_22) rfl (tlt hc22).1 (by decide) (by decide) ?_
      exact kt
    have pre5 : ∀ t, Steps p.tables e below (s₁.setTop (mkF m 34 #[.val (.ref a1), .val (.ref a1), .val (.int (1 : Int32)), .val (.int (1 : Int32)), .val (.int w0)] [(.int (1 : Int32))])) t → Steps p.tables e below (s₁.setTop (entryFrame m #[(.ref a1)] 5)) t := by
      intro t kt
      refine pre4 t ?_
      show Steps p.tables e below (s₁.setTop (mkF m 27 #[.val (.ref a1), .val (.ref a1), .val (.int (1 : Int32)), .val (.int (0 : Int32)), .val (.int w0)] [])) _
      refine XS.iinc X0.here hx rfl (hb hby d2_27) rfl (l' := #[.val (.ref a1), .val (.ref a1), .val (.int (1 : Int32)), .val (.int (1 : Int32)), .val (.int w0)]) rfl ?_
      show Steps p.tables e below (s₁.setTop (mkF m 30 #[.val (.ref a1), .val (.ref a1), .val (.int (1 : Int32)), .val (.int (1 : Int32)), .val (.int w0)] [])) _
      refine XS.goto X0.here hx rfl (pc0 := 30) (pc' := 7) rfl (hb hby d2_30) (by decide) (by decide) ?_
      show Steps p.tables e below (s₁.setTop (mkF m 7 #[.val (.ref a1), .val (.ref a1), .val (.int (1 : Int32)), .val (.int (1 : Int32)), .val (.int w0)] [])) _
      refine XS.iloadN X0.here hx rfl (hb hby d2_7) rfl ?_
      show Steps p.tables e below (s₁.setTop (mkF m 8 #[.val (.ref a1), .val (.ref a1), .val (.int (1 : Int32)), .val (.int (1 : Int32)), .val (.int w0)] [(.int (1 : Int32))])) _
      refine XS.iloadN X0.here hx rfl (hb hby d2_8) rfl ?_
      show Steps p.tables e below (s₁.setTop (mkF m 9 #[.val (.ref a1), .val (.ref a1), .val (.int (1 : Int32)), .val (.int (1 : Int32)), .val (.int w0)] [(.int (1 : Int32)), (.int (1 : Int32))])) _
      refine XS.icmpYes X0.here hx rfl (pc0 := 9) (pc' := 33) rfl (hb hby d2_9) rfl (flt (by decide)).2.1 (by decide) (by decide) ?_
      show Steps p.tables e below (s₁.setTop (mkF m 33 #[.val (.ref a1), .val (.ref a1), .val (.int (1 : Int32)), .val (.int (1 : Int32)), .val (.int w0)] [])) _
      refine XS.iconst X0.here hx rfl (hb hby d2_33) ?_
      exact kt
    have hres : (1 : Int32) = (if w0 < (128 : Int32) then (1 : Int32) else (0 : Int32)) := by simp [hc22]
    obtain ⟨fs, hr, hrun, hended, hW, hsame⟩ := X0.leave (v := some (.int (1 : Int32))) (fun h => by rw [Bd.returns] at h; cases h)
    refine ⟨_, _, pre5 _ ?_, hrun, hended, _, _, rfl, ?_, ⟨_, rfl⟩, hW, hsame.mono (by decide) (by decide)⟩
    · show Steps p.tables e below (s₁.setTop (mkF m 34 #[.val (.ref a1), .val (.ref a1), .val (.int (1 : Int32)), .val (.int (1 : Int32)), .val (.int w0)] [(.int (1 : Int32))])) _
      exact retN X0 hx (t := .boolean) Bd.returns (by simp) (hb hby d2_34) hr
    · show Qrm2_1 Z a1 kd w0 h0 n0 _ s₁.heap _
      rw [e0]
      exact ⟨congrArg some (congrArg Value.int hres), N0, rfl⟩
  · have pre6 : ∀ t, Steps p.tables e below (s₁.setTop (mkF m 25 #[.val (.ref a1), .val (.ref a1), .val (.int (1 : Int32)), .val (.int (0 : Int32)), .val (.int w0)] [])) t → Steps p.tables e below (s₁.setTop (entryFrame m #[(.ref a1)] 5)) t := by
      intro t kt
      refine pre3 t ?_
      show Steps p.tables e below (s₁.setTop (mkF m 22 #[.val (.ref a1), .val (.ref a1), .val (.int (1 : Int32)), .val (.int (0 : Int32)), .val (.int w0)] [(.int (128 : Int32)), (.int w0)])) _
      refine XS.icmpNo X0.here hx rfl (hb hby d2_22) rfl (flt hc22).1 ?_
      exact kt
    have pre7 : ∀ t, Steps p.tables e below (s₁.setTop (mkF m 26 #[.val (.ref a1), .val (.ref a1), .val (.int (1 : Int32)), .val (.int (0 : Int32)), .val (.int w0)] [(.int (0 : Int32))])) t → Steps p.tables e below (s₁.setTop (entryFrame m #[(.ref a1)] 5)) t := by
      intro t kt
      refine pre6 t ?_
      show Steps p.tables e below (s₁.setTop (mkF m 25 #[.val (.ref a1), .val (.ref a1), .val (.int (1 : Int32)), .val (.int (0 : Int32)), .val (.int w0)] [])) _
      refine XS.iconst X0.here hx rfl (hb hby d2_25) ?_
      exact kt
    have hres : (0 : Int32) = (if w0 < (128 : Int32) then (1 : Int32) else (0 : Int32)) := by simp [hc22]
    obtain ⟨fs, hr, hrun, hended, hW, hsame⟩ := X0.leave (v := some (.int (0 : Int32))) (fun h => by rw [Bd.returns] at h; cases h)
    refine ⟨_, _, pre7 _ ?_, hrun, hended, _, _, rfl, ?_, ⟨_, rfl⟩, hW, hsame.mono (by decide) (by decide)⟩
    · show Steps p.tables e below (s₁.setTop (mkF m 26 #[.val (.ref a1), .val (.ref a1), .val (.int (1 : Int32)), .val (.int (0 : Int32)), .val (.int w0)] [(.int (0 : Int32))])) _
      exact retN X0 hx (t := .boolean) Bd.returns (by simp) (hb hby d2_26) hr
    · show Qrm2_1 Z a1 kd w0 h0 n0 _ s₁.heap _
      rw [e0]
      exact ⟨congrArg some (congrArg Value.int hres), N0, rfl⟩
def Qrm2_2 (Z : State) (a1 : Addr) (kd : ClassId) (w0 : Int32) (w1 : Int32) (h0 : Heap) (n0 : Nat) (v : Option Value) (h : Heap) (L : List Loc) : Prop := v = some (.int (if w0 < (128 : Int32) then (if w1 < (128 : Int32) then (1 : Int32) else (0 : Int32)) else (0 : Int32))) ∧ Fr n0 L ∧ h = h0

set_option maxRecDepth 65536 in
set_option maxHeartbeats 40000000 in
theorem rm2_2 (l : Launch) (Z : State) (a0 : Array Value) (hw : ∀ d ∈ tables_1, d.before a0 Z = true) (ws : List Jvm.Cond) (a1 : Addr) (kd : ClassId) (w0 : Int32) (w1 : Int32) (h0 : Heap) (n0 : Nat) (Z0 : n0 ≤ h0.size) (V_a1 : Arv Z h0 a1 kd .int (2 : Int32) [(.int w0), (.int w1)] (.int (0 : Int32))) :
    MetFree l (⟨own_k9, "isAscii", "([I)Z"⟩ : MethodName) (head1 (Jvm.Cond.code (⟨own_k9, "isAscii", "([I)Z"⟩ : MethodName) prog_25_method_4_code 5 (some .boolean) :: ws) ({ frames := 0, cells := 0, slots := 0, locals := 0 } : Room)) (fun a U => a = #[(.ref a1)] ∧ Z.Warmed39 U.vm ∧ U.heap = h0) (fun _ _ _ _ _ => True) (fun _ U o U' => ∃ v L, o = .returned v ∧ Qrm2_2 Z a1 kd w0 w1 h0 n0 v U'.heap L ∧ FrameEnd U o U' L ({ frames := 0, cells := 0, slots := 0, locals := 0 } : Room).cells ({ frames := 0, cells := 0, slots := 0, locals := 0 } : Room).slots) := by
  refine MetFree.of_bodySF (plainFor_of_name pn_1) hisR ?_
  intro p e s m args below meth c s₁ Bd hml0 hP hK
  obtain ⟨rfl, hZ, hh⟩ := hP
  have hx := Bd.exec
  have hby := Bd.bytes
  have hml : c.maxLocals = 5 := hml0
  have hown : s.vm.findClass own_k9 = some m.cls := findClass_of_methodNamed Bd.named
  have hnm := (name_of_methodNamed Bd.named Bd.method).1
  have X0 : Stand p l e ({ frames := 0, cells := 0, slots := 0, locals := 0 } : Room) s m #[(.ref a1)] below meth c s₁ [] 0 0 := Stand.of_body Bd
  have e0 : s₁.heap = h0 := by rw [← hh, Bd.state]; rfl
  have N0 := Fr.nil n0
  have pre0 : ∀ t, Steps p.tables e below (s₁.setTop (mkF m 0 #[.val (.ref a1), .unset, .unset, .unset, .unset] [])) t → Steps p.tables e below (s₁.setTop (entryFrame m #[(.ref a1)] 5)) t := fun t k => castTop (ef_2 m a1) k
  have pre3 : ∀ t, Steps p.tables e below (s₁.setTop (mkF m 22 #[.val (.ref a1), .val (.ref a1), .val (.int (2 : Int32)), .val (.int (0 : Int32)), .val (.int w0)] [(.int (128 : Int32)), (.int w0)])) t → Steps p.tables e below (s₁.setTop (entryFrame m #[(.ref a1)] 5)) t := by
    intro t kt
    refine pre0 t ?_
    show Steps p.tables e below (s₁.setTop (mkF m 0 #[.val (.ref a1), .unset, .unset, .unset, .unset] [])) _
    refine XS.aloadN X0.here hx rfl (hb hby d2_0) rfl rfl ?_
    show Steps p.tables e below (s₁.setTop (mkF m 1 #[.val (.ref a1), .unset, .unset, .unset, .unset] [(.ref a1)])) _
    refine XS.astoreN X0.here hx rfl (hb hby d2_1) rfl rfl (l' := #[.val (.ref a1), .val (.ref a1), .unset, .unset, .unset]) rfl ?_
    show Steps p.tables e below (s₁.setTop (mkF m 2 #[.val (.ref a1), .val (.ref a1), .unset, .unset, .unset] [])) _
    refine XS.aloadN X0.here hx rfl (hb hby d2_2) rfl rfl ?_
    show Steps p.tables e below (s₁.setTop (mkF m 3 #[.val (.ref a1), .val (.ref a1), .unset, .unset, .unset] [(.ref a1)])) _
    obtain ⟨cl1, Ar1, -, S1, M1, -, -⟩ := (id V_a1)
    refine X0.arraylength hx (by rw [e0]; exact Ar1.1) (State.isArrayOf_alike hZ.alike Ar1.2.1) (g := (mkF m 3 #[.val (.ref a1), .val (.ref a1), .unset, .unset, .unset] [(.ref a1)])) rfl rfl (hb hby d2_3) _ ?_
    rw [len_of S1 M1]
    show Steps p.tables e below (s₁.setTop (mkF m 4 #[.val (.ref a1), .val (.ref a1), .unset, .unset, .unset] [(.int (2 : Int32))])) _
    refine XS.istoreN X0.here hx rfl (hb hby d2_4) rfl (l' := #[.val (.ref a1), .val (.ref a1), .val (.int (2 : Int32)), .unset, .unset]) rfl ?_
    show Steps p.tables e below (s₁.setTop (mkF m 5 #[.val (.ref a1), .val (.ref a1), .val (.int (2 : Int32)), .unset, .unset] [])) _
    refine XS.iconst X0.here hx rfl (hb hby d2_5) ?_
    show Steps p.tables e below (s₁.setTop (mkF m 6 #[.val (.ref a1), .val (.ref a1), .val (.int (2 : Int32)), .unset, .unset] [(.int (0 : Int32))])) _
    refine XS.istoreN X0.here hx rfl (hb hby d2_6) rfl (l' := #[.val (.ref a1), .val (.ref a1), .val (.int (2 : Int32)), .val (.int (0 : Int32)), .unset]) rfl ?_
    show Steps p.tables e below (s₁.setTop (mkF m 7 #[.val (.ref a1), .val (.ref a1), .val (.int (2 : Int32)), .val (.int (0 : Int32)), .unset] [])) _
    refine XS.iloadN X0.here hx rfl (hb hby d2_7) rfl ?_
    show Steps p.tables e below (s₁.setTop (mkF m 8 #[.val (.ref a1), .val (.ref a1), .val (.int (2 : Int32)), .val (.int (0 : Int32)), .unset] [(.int (0 : Int32))])) _
    refine XS.iloadN X0.here hx rfl (hb hby d2_8) rfl ?_
    show Steps p.tables e below (s₁.setTop (mkF m 9 #[.val (.ref a1), .val (.ref a1), .val (.int (2 : Int32)), .val (.int (0 : Int32)), .unset] [(.int (2 : Int32)), (.int (0 : Int32))])) _
    refine XS.icmpNo X0.here hx rfl (hb hby d2_9) rfl (tlt (by decide)).2.1 ?_
    show Steps p.tables e below (s₁.setTop (mkF m 12 #[.val (.ref a1), .val (.ref a1), .val (.int (2 : Int32)), .val (.int (0 : Int32)), .unset] [])) _
    refine XS.aloadN X0.here hx rfl (hb hby d2_12) rfl rfl ?_
    show Steps p.tables e below (s₁.setTop (mkF m 13 #[.val (.ref a1), .val (.ref a1), .val (.int (2 : Int32)), .val (.int (0 : Int32)), .unset] [(.ref a1)])) _
    refine XS.iloadN X0.here hx rfl (hb hby d2_13) rfl ?_
    show Steps p.tables e below (s₁.setTop (mkF m 14 #[.val (.ref a1), .val (.ref a1), .val (.int (2 : Int32)), .val (.int (0 : Int32)), .unset] [(.int (0 : Int32)), (.ref a1)])) _
    obtain ⟨cl2, Ar2, -, S2, M2, H2, -⟩ := (id V_a1)
    have hin2 : ¬ ((0 : Int32) < 0 ∨ cl2.slots.size ≤ ((0 : Int32)).toNatClampNeg) := inb_of S2 ⟨by decide, by decide⟩
    refine X0.iaload hx (j := (0 : Int32)) (v := (.int w0)) (by rw [e0]; exact Ar2.1) (State.isArrayOf_alike hZ.alike Ar2.2.1) Ar2.2.2 hin2 (H2.at hin2 rfl) (g := (mkF m 14 #[.val (.ref a1), .val (.ref a1), .val (.int (2 : Int32)), .val (.int (0 : Int32)), .unset] [(.int (0 : Int32)), (.ref a1)])) rfl rfl (hb hby d2_14) _ ?_
    show Steps p.tables e below (s₁.setTop (mkF m 15 #[.val (.ref a1), .val (.ref a1), .val (.int (2 : Int32)), .val (.int (0 : Int32)), .unset] [(.int w0)])) _
    refine XS.istore X0.here hx rfl (hb hby d2_15) rfl (l' := #[.val (.ref a1), .val (.ref a1), .val (.int (2 : Int32)), .val (.int (0 : Int32)), .val (.int w0)]) rfl ?_
    show Steps p.tables e below (s₁.setTop (mkF m 17 #[.val (.ref a1), .val (.ref a1), .val (.int (2 : Int32)), .val (.int (0 : Int32)), .val (.int w0)] [])) _
    refine XS.iload X0.here hx rfl (hb hby d2_17) rfl ?_
    show Steps p.tables e below (s₁.setTop (mkF m 19 #[.val (.ref a1), .val (.ref a1), .val (.int (2 : Int32)), .val (.int (0 : Int32)), .val (.int w0)] [(.int w0)])) _
    refine XS.sipush X0.here hx rfl (hb hby d2_19) ?_
    exact kt
  by_cases hc22 : w0 < (128 : Int32)
  · have pre4 : ∀ t, Steps p.tables e below (s₁.setTop (mkF m 27 #[.val (.ref a1), .val (.ref a1), .val (.int (2 : Int32)), .val (.int (0 : Int32)), .val (.int w0)] [])) t → Steps p.tables e below (s₁.setTop (entryFrame m #[(.ref a1)] 5)) t := by
      intro t kt
      refine pre3 t ?_
      show Steps p.tables e below (s₁.setTop (mkF m 22 #[.val (.ref a1), .val (.ref a1), .val (.int (2 : Int32)), .val (.int (0 : Int32)), .val (.int w0)] [(.int (128 : Int32)), (.int w0)])) _
      refine XS.icmpYes X0.here hx rfl (pc0 := 22) (pc' := 27) rfl (hb hby d2_22) rfl (tlt hc22).1 (by decide) (by decide) ?_
      exact kt
    have pre6 : ∀ t, Steps p.tables e below (s₁.setTop (mkF m 22 #[.val (.ref a1), .val (.ref a1), .val (.int (2 : Int32)), .val (.int (1 : Int32)), .val (.int w1)] [(.int (128 : Int32)), (.int w1)])) t → Steps p.tables e below (s₁.setTop (entryFrame m #[(.ref a1)] 5)) t := by
      intro t kt
      refine pre4 t ?_
      show Steps p.tables e below (s₁.setTop (mkF m 27 #[.val (.ref a1), .val (.ref a1), .val (.int (2 : Int32)), .val (.int (0 : Int32)), .val (.int w0)] [])) _
      refine XS.iinc X0.here hx rfl (hb hby d2_27) rfl (l' := #[.val (.ref a1), .val (.ref a1), .val (.int (2 : Int32)), .val (.int (1 : Int32)), .val (.int w0)]) rfl ?_
      show Steps p.tables e below (s₁.setTop (mkF m 30 #[.val (.ref a1), .val (.ref a1), .val (.int (2 : Int32)), .val (.int (1 : Int32)), .val (.int w0)] [])) _
      refine XS.goto X0.here hx rfl (pc0 := 30) (pc' := 7) rfl (hb hby d2_30) (by decide) (by decide) ?_
      show Steps p.tables e below (s₁.setTop (mkF m 7 #[.val (.ref a1), .val (.ref a1), .val (.int (2 : Int32)), .val (.int (1 : Int32)), .val (.int w0)] [])) _
      refine XS.iloadN X0.here hx rfl (hb hby d2_7) rfl ?_
      show Steps p.tables e below (s₁.setTop (mkF m 8 #[.val (.ref a1), .val (.ref a1), .val (.int (2 : Int32)), .val (.int (1 : Int32)), .val (.int w0)] [(.int (1 : Int32))])) _
      refine XS.iloadN X0.here hx rfl (hb hby d2_8) rfl ?_
      show Steps p.tables e below (s₁.setTop (mkF m 9 #[.val (.ref a1), .val (.ref a1), .val (.int (2 : Int32)), .val (.int (1 : Int32)), .val (.int w0)] [(.int (2 : Int32)), (.int (1 : Int32))])) _
      refine XS.icmpNo X0.here hx rfl (hb hby d2_9) rfl (tlt (by decide)).2.1 ?_
      show Steps p.tables e below (s₁.setTop (mkF m 12 #[.val (.ref a1), .val (.ref a1), .val (.int (2 : Int32)), .val (.int (1 : Int32)), .val (.int w0)] [])) _
      refine XS.aloadN X0.here hx rfl (hb hby d2_12) rfl rfl ?_
      show Steps p.tables e below (s₁.setTop (mkF m 13 #[.val (.ref a1), .val (.ref a1), .val (.int (2 : Int32)), .val (.int (1 : Int32)), .val (.int w0)] [(.ref a1)])) _
      refine XS.iloadN X0.here hx rfl (hb hby d2_13) rfl ?_
      show Steps p.tables e below (s₁.setTop (mkF m 14 #[.val (.ref a1), .val (.ref a1), .val (.int (2 : Int32)), .val (.int (1 : Int32)), .val (.int w0)] [(.int (1 : Int32)), (.ref a1)])) _
      obtain ⟨cl5, Ar5, -, S5, M5, H5, -⟩ := (id V_a1)
      have hin5 : ¬ ((1 : Int32) < 0 ∨ cl5.slots.size ≤ ((1 : Int32)).toNatClampNeg) := inb_of S5 ⟨by decide, by decide⟩
      refine X0.iaload hx (j := (1 : Int32)) (v := (.int w1)) (by rw [e0]; exact Ar5.1) (State.isArrayOf_alike hZ.alike Ar5.2.1) Ar5.2.2 hin5 (H5.at hin5 rfl) (g := (mkF m 14 #[.val (.ref a1), .val (.ref a1), .val (.int (2 : Int32)), .val (.int (1 : Int32)), .val (.int w0)] [(.int (1 : Int32)), (.ref a1)])) rfl rfl (hb hby d2_14) _ ?_
      show Steps p.tables e below (s₁.setTop (mkF m 15 #[.val (.ref a1), .val (.ref a1), .val (.int (2 : Int32)), .val (.int (1 : Int32)), .val (.int w0)] [(.int w1)])) _
      refine XS.istore X0.here hx rfl (hb hby d2_15) rfl (l' := #[.val (.ref a1), .val (.ref a1), .val (.int (2 : Int32)), .val (.int (1 : Int32)), .val (.int w1)]) rfl ?_
      show Steps p.tables e below (s₁.setTop (mkF m 17 #[.val (.ref a1), .val (.ref a1), .val (.int (2 : Int32)), .val (.int (1 : Int32)), .val (.int w1)] [])) _
      refine XS.iload X0.here hx rfl (hb hby d2_17) rfl ?_
      show Steps p.tables e below (s₁.setTop (mkF m 19 #[.val (.ref a1), .val (.ref a1), .val (.int (2 : Int32)), .val (.int (1 : Int32)), .val (.int w1)] [(.int w1)])) _
      refine XS.sipush X0.here hx rfl (hb hby d2_19) ?_
      exact kt
    by_cases hc22_1 : w1 < (128 : Int32)
    · have pre7 : ∀ t, Steps p.tables e below (s₁.setTop (mkF m 27 #[.val (.ref a1), .val (.ref a1), .val (.int (2 : Int32)), .val (.int (1 : Int32)), .val (.int w1)] [])) t → Steps p.tables e below (s₁.setTop (entryFrame m #[(.ref a1)] 5)) t := by
        intro t kt
        refine pre6 t ?_
        show Steps p.tables e below (s₁.setTop (mkF m 22 #[.val (.ref a1), .val (.ref a1), .val (.int (2 : Int32)), .val (.int (1 : Int32)), .val (.int w1)] [(.int (128 : Int32)), (.int w1)])) _
        refine XS.icmpYes X0.here hx rfl (pc0 := 22) (pc' := 27) rfl (hb hby d2_22) rfl (tlt hc22_1).1 (by decide) (by decide) ?_
        exact kt
      have pre8 : ∀ t, Steps p.tables e below (s₁.setTop (mkF m 34 #[.val (.ref a1), .val (.ref a1), .val (.int (2 : Int32)), .val (.int (2 : Int32)), .val (.int w1)] [(.int (1 : Int32))])) t → Steps p.tables e below (s₁.setTop (entryFrame m #[(.ref a1)] 5)) t := by
        intro t kt
        refine pre7 t ?_
        show Steps p.tables e below (s₁.setTop (mkF m 27 #[.val (.ref a1), .val (.ref a1), .val (.int (2 : Int32)), .val (.int (1 : Int32)), .val (.int w1)] [])) _
        refine XS.iinc X0.here hx rfl (hb hby d2_27) rfl (l' := #[.val (.ref a1), .val (.ref a1), .val (.int (2 : Int32)), .val (.int (2 : Int32)), .val (.int w1)]) rfl ?_
        show Steps p.tables e below (s₁.setTop (mkF m 30 #[.val (.ref a1), .val (.ref a1), .val (.int (2 : Int32)), .val (.int (2 : Int32)), .val (.int w1)] [])) _
        refine XS.goto X0.here hx rfl (pc0 := 30) (pc' := 7) rfl (hb hby d2_30) (by decide) (by decide) ?_
        show Steps p.tables e below (s₁.setTop (mkF m 7 #[.val (.ref a1), .val (.ref a1), .val (.int (2 : Int32)), .val (.int (2 : Int32)), .val (.int w1)] [])) _
        refine XS.iloadN X0.here hx rfl (hb hby d2_7) rfl ?_
        show Steps p.tables e below (s₁.setTop (mkF m 8 #[.val (.ref a1), .val (.ref a1), .val (.int (2 : Int32)), .val (.int (2 : Int32)), .val (.int w1)] [(.int (2 : Int32))])) _
        refine XS.iloadN X0.here hx rfl (hb hby d2_8) rfl ?_
        show Steps p.tables e below (s₁.setTop (mkF m 9 #[.val (.ref a1), .val (.ref a1), .val (.int (2 : Int32)), .val (.int (2 : Int32)), .val (.int w1)] [(.int (2 : Int32)), (.int (2 : Int32))])) _
        refine XS.icmpYes X0.here hx rfl (pc0 := 9) (pc' := 33) rfl (hb hby d2_9) rfl (flt (by decide)).2.1 (by decide) (by decide) ?_
        show Steps p.tables e below (s₁.setTop (mkF m 33 #[.val (.ref a1), .val (.ref a1), .val (.int (2 : Int32)), .val (.int (2 : Int32)), .val (.int w1)] [])) _
        refine XS.iconst X0.here hx rfl (hb hby d2_33) ?_
        exact kt
      have hres : (1 : Int32) = (if w0 < (128 : Int32) then (if w1 < (128 : Int32) then (1 : Int32) else (0 : Int32)) else (0 : Int32)) := by simp [hc22, hc22_1]
      obtain ⟨fs, hr, hrun, hended, hW, hsame⟩ := X0.leave (v := some (.int (1 : Int32))) (fun h => by rw [Bd.returns] at h; cases h)
      refine ⟨_, _, pre8 _ ?_, hrun, hended, _, _, rfl, ?_, ⟨_, rfl⟩, hW, hsame.mono (by decide) (by decide)⟩
      · show Steps p.tables e below (s₁.setTop (mkF m 34 #[.val (.ref a1), .val (.ref a1), .val (.int (2 : Int32)), .val (.int (2 : Int32)), .val (.int w1)] [(.int (1 : Int32))])) _
        exact retN X0 hx (t := .boolean) Bd.returns (by simp) (hb hby d2_34) hr
      · show Qrm2_2 Z a1 kd w0 w1 h0 n0 _ s₁.heap _
        rw [e0]
        exact ⟨congrArg some (congrArg Value.int hres), N0, rfl⟩
    · have pre9 : ∀ t, Steps p.tables e below (s₁.setTop (mkF m 25 #[.val (.ref a1), .val (.ref a1), .val (.int (2 : Int32)), .val (.int (1 : Int32)), .val (.int w1)] [])) t → Steps p.tables e below (s₁.setTop (entryFrame m #[(.ref a1)] 5)) t := by
        intro t kt
        refine pre6 t ?_
        show Steps p.tables e below (s₁.setTop (mkF m 22 #[.val (.ref a1), .val (.ref a1), .val (.int (2 : Int32)), .val (.int (1 : Int32)), .val (.int w1)] [(.int (128 : Int32)), (.int w1)])) _
        refine XS.icmpNo X0.here hx rfl (hb hby d2_22) rfl (flt hc22_1).1 ?_
        exact kt
      have pre10 : ∀ t, Steps p.tables e below (s₁.setTop (mkF m 26 #[.val (.ref a1), .val (.ref a1), .val (.int (2 : Int32)), .val (.int (1 : Int32)), .val (.int w1)] [(.int (0 : Int32))])) t → Steps p.tables e below (s₁.setTop (entryFrame m #[(.ref a1)] 5)) t := by
        intro t kt
        refine pre9 t ?_
        show Steps p.tables e below (s₁.setTop (mkF m 25 #[.val (.ref a1), .val (.ref a1), .val (.int (2 : Int32)), .val (.int (1 : Int32)), .val (.int w1)] [])) _
        refine XS.iconst X0.here hx rfl (hb hby d2_25) ?_
        exact kt
      have hres : (0 : Int32) = (if w0 < (128 : Int32) then (if w1 < (128 : Int32) then (1 : Int32) else (0 : Int32)) else (0 : Int32)) := by simp [hc22, hc22_1]
      obtain ⟨fs, hr, hrun, hended, hW, hsame⟩ := X0.leave (v := some (.int (0 : Int32))) (fun h => by rw [Bd.returns] at h; cases h)
      refine ⟨_, _, pre10 _ ?_, hrun, hended, _, _, rfl, ?_, ⟨_, rfl⟩, hW, hsame.mono (by decide) (by decide)⟩
      · show Steps p.tables e below (s₁.setTop (mkF m 26 #[.val (.ref a1), .val (.ref a1), .val (.int (2 : Int32)), .val (.int (1 : Int32)), .val (.int w1)] [(.int (0 : Int32))])) _
        exact retN X0 hx (t := .boolean) Bd.returns (by simp) (hb hby d2_26) hr
      · show Qrm2_2 Z a1 kd w0 w1 h0 n0 _ s₁.heap _
        rw [e0]
        exact ⟨congrArg some (congrArg Value.int hres), N0, rfl⟩
  · have pre11 : ∀ t, Steps p.tables e below (s₁.setTop (mkF m 25 #[.val (.ref a1), .val (.ref a1), .val (.int (2 : Int32)), .val (.int (0 : Int32)), .val (.int w0)] [])) t → Steps p.tables e below (s₁.setTop (entryFrame m #[(.ref a1)] 5)) t := by
      intro t kt
      refine pre3 t ?_
      show Steps p.tables e below (s₁.setTop (mkF m 22 #[.val (.ref a1), .val (.ref a1), .val (.int (2 : Int32)), .val (.int (0 : Int32)), .val (.int w0)] [(.int (128 : Int32)), (.int w0)])) _
      refine XS.icmpNo X0.here hx rfl (hb hby d2_22) rfl (flt hc22).1 ?_
      exact kt
    have pre12 : ∀ t, Steps p.tables e below (s₁.setTop (mkF m 26 #[.val (.ref a1), .val (.ref a1), .val (.int (2 : Int32)), .val (.int (0 : Int32)), .val (.int w0)] [(.int (0 : Int32))])) t → Steps p.tables e below (s₁.setTop (entryFrame m #[(.ref a1)] 5)) t := by
      intro t kt
      refine pre11 t ?_
      show Steps p.tables e below (s₁.setTop (mkF m 25 #[.val (.ref a1), .val (.ref a1), .val (.int (2 : Int32)), .val (.int (0 : Int32)), .val (.int w0)] [])) _
      refine XS.iconst X0.here hx rfl (hb hby d2_25) ?_
      exact kt
    have hres : (0 : Int32) = (if w0 < (128 : Int32) then (if w1 < (128 : Int32) then (1 : Int32) else (0 : Int32)) else (0 : Int32)) := by simp [hc22]
    obtain ⟨fs, hr, hrun, hended, hW, hsame⟩ := X0.leave (v := some (.int (0 : Int32))) (fun h => by rw [Bd.returns] at h; cases h)
    refine ⟨_, _, pre12 _ ?_, hrun, hended, _, _, rfl, ?_, ⟨_, rfl⟩, hW, hsame.mono (by decide) (by decide)⟩
    · show Steps p.tables e below (s₁.setTop (mkF m 26 #[.val (.ref a1), .val (.ref a1), .val (.int (2 : Int32)), .val (.int (0 : Int32)), .val (.int w0)] [(.int (0 : Int32))])) _
      exact retN X0 hx (t := .boolean) Bd.returns (by simp) (hb hby d2_26) hr
    · show Qrm2_2 Z a1 kd w0 w1 h0 n0 _ s₁.heap _
      rw [e0]
      exact ⟨congrArg some (congrArg Value.int hres), N0, rfl⟩
def Qrm2_3 (Z : State) (a1 : Addr) (kd : ClassId) (w0 : Int32) (w1 : Int32) (w2 : Int32) (h0 : Heap) (n0 : Nat) (v : Option Value) (h : Heap) (L : List Loc) : Prop := v = some (.int (if w0 < (128 : Int32) then (if w1 < (128 : Int32) then (if w2 < (128 : Int32) then (1 : Int32) else (0 : Int32)) else (0 : Int32)) else (0 : Int32))) ∧ Fr n0 L ∧ h = h0

set_option maxRecDepth 65536 in
set_option maxHeartbeats 40000000 in
theorem rm2_3 (l : Launch) (Z : State) (a0 : Array Value) (hw : ∀ d ∈ tables_1, d.before a0 Z = true) (ws : List Jvm.Cond) (a1 : Addr) (kd : ClassId) (w0 : Int32) (w1 : Int32) (w2 : Int32) (h0 : Heap) (n0 : Nat) (Z0 : n0 ≤ h0.size) (V_a1 : Arv Z h0 a1 kd .int (3 : Int32) [(.int w0), (.int w1), (.int w2)] (.int (0 : Int32))) :
    MetFree l (⟨own_k9, "isAscii", "([I)Z"⟩ : MethodName) (head1 (Jvm.Cond.code (⟨own_k9, "isAscii", "([I)Z"⟩ : MethodName) prog_25_method_4_code 5 (some .boolean) :: ws) ({ frames := 0, cells := 0, slots := 0, locals := 0 } : Room)) (fun a U => a = #[(.ref a1)] ∧ Z.Warmed39 U.vm ∧ U.heap = h0) (fun _ _ _ _ _ => True) (fun _ U o U' => ∃ v L, o = .returned v ∧ Qrm2_3 Z a1 kd w0 w1 w2 h0 n0 v U'.heap L ∧ FrameEnd U o U' L ({ frames := 0, cells := 0, slots := 0, locals := 0 } : Room).cells ({ frames := 0, cells := 0, slots := 0, locals := 0 } : Room).slots) := by
  refine MetFree.of_bodySF (plainFor_of_name pn_1) hisR ?_
  intro p e s m args below meth c s₁ Bd hml0 hP hK
  obtain ⟨rfl, hZ, hh⟩ := hP
  have hx := Bd.exec
  have hby := Bd.bytes
  have hml : c.maxLocals = 5 := hml0
  have hown : s.vm.findClass own_k9 = some m.cls := findClass_of_methodNamed Bd.named
  have hnm := (name_of_methodNamed Bd.named Bd.method).1
  have X0 : Stand p l e ({ frames := 0, cells := 0, slots := 0, locals := 0 } : Room) s m #[(.ref a1)] below meth c s₁ [] 0 0 := Stand.of_body Bd
  have e0 : s₁.heap = h0 := by rw [← hh, Bd.state]; rfl
  have N0 := Fr.nil n0
  have pre0 : ∀ t, Steps p.tables e below (s₁.setTop (mkF m 0 #[.val (.ref a1), .unset, .unset, .unset, .unset] [])) t → Steps p.tables e below (s₁.setTop (entryFrame m #[(.ref a1)] 5)) t := fun t k => castTop (ef_2 m a1) k
  have pre3 : ∀ t, Steps p.tables e below (s₁.setTop (mkF m 22 #[.val (.ref a1), .val (.ref a1), .val (.int (3 : Int32)), .val (.int (0 : Int32)), .val (.int w0)] [(.int (128 : Int32)), (.int w0)])) t → Steps p.tables e below (s₁.setTop (entryFrame m #[(.ref a1)] 5)) t := by
    intro t kt
    refine pre0 t ?_
    show Steps p.tables e below (s₁.setTop (mkF m 0 #[.val (.ref a1), .unset, .unset, .unset, .unset] [])) _
    refine XS.aloadN X0.here hx rfl (hb hby d2_0) rfl rfl ?_
    show Steps p.tables e below (s₁.setTop (mkF m 1 #[.val (.ref a1), .unset, .unset, .unset, .unset] [(.ref a1)])) _
    refine XS.astoreN X0.here hx rfl (hb hby d2_1) rfl rfl (l' := #[.val (.ref a1), .val (.ref a1), .unset, .unset, .unset]) rfl ?_
    show Steps p.tables e below (s₁.setTop (mkF m 2 #[.val (.ref a1), .val (.ref a1), .unset, .unset, .unset] [])) _
    refine XS.aloadN X0.here hx rfl (hb hby d2_2) rfl rfl ?_
    show Steps p.tables e below (s₁.setTop (mkF m 3 #[.val (.ref a1), .val (.ref a1), .unset, .unset, .unset] [(.ref a1)])) _
    obtain ⟨cl1, Ar1, -, S1, M1, -, -⟩ := (id V_a1)
    refine X0.arraylength hx (by rw [e0]; exact Ar1.1) (State.isArrayOf_alike hZ.alike Ar1.2.1) (g := (mkF m 3 #[.val (.ref a1), .val (.ref a1), .unset, .unset, .unset] [(.ref a1)])) rfl rfl (hb hby d2_3) _ ?_
    rw [len_of S1 M1]
    show Steps p.tables e below (s₁.setTop (mkF m 4 #[.val (.ref a1), .val (.ref a1), .unset, .unset, .unset] [(.int (3 : Int32))])) _
    refine XS.istoreN X0.here hx rfl (hb hby d2_4) rfl (l' := #[.val (.ref a1), .val (.ref a1), .val (.int (3 : Int32)), .unset, .unset]) rfl ?_
    show Steps p.tables e below (s₁.setTop (mkF m 5 #[.val (.ref a1), .val (.ref a1), .val (.int (3 : Int32)), .unset, .unset] [])) _
    refine XS.iconst X0.here hx rfl (hb hby d2_5) ?_
    show Steps p.tables e below (s₁.setTop (mkF m 6 #[.val (.ref a1), .val (.ref a1), .val (.int (3 : Int32)), .unset, .unset] [(.int (0 : Int32))])) _
    refine XS.istoreN X0.here hx rfl (hb hby d2_6) rfl (l' := #[.val (.ref a1), .val (.ref a1), .val (.int (3 : Int32)), .val (.int (0 : Int32)), .unset]) rfl ?_
    show Steps p.tables e below (s₁.setTop (mkF m 7 #[.val (.ref a1), .val (.ref a1), .val (.int (3 : Int32)), .val (.int (0 : Int32)), .unset] [])) _
    refine XS.iloadN X0.here hx rfl (hb hby d2_7) rfl ?_
    show Steps p.tables e below (s₁.setTop (mkF m 8 #[.val (.ref a1), .val (.ref a1), .val (.int (3 : Int32)), .val (.int (0 : Int32)), .unset] [(.int (0 : Int32))])) _
    refine XS.iloadN X0.here hx rfl (hb hby d2_8) rfl ?_
    show Steps p.tables e below (s₁.setTop (mkF m 9 #[.val (.ref a1), .val (.ref a1), .val (.int (3 : Int32)), .val (.int (0 : Int32)), .unset] [(.int (3 : Int32)), (.int (0 : Int32))])) _
    refine XS.icmpNo X0.here hx rfl (hb hby d2_9) rfl (tlt (by decide)).2.1 ?_
    show Steps p.tables e below (s₁.setTop (mkF m 12 #[.val (.ref a1), .val (.ref a1), .val (.int (3 : Int32)), .val (.int (0 : Int32)), .unset] [])) _
    refine XS.aloadN X0.here hx rfl (hb hby d2_12) rfl rfl ?_
    show Steps p.tables e below (s₁.setTop (mkF m 13 #[.val (.ref a1), .val (.ref a1), .val (.int (3 : Int32)), .val (.int (0 : Int32)), .unset] [(.ref a1)])) _
    refine XS.iloadN X0.here hx rfl (hb hby d2_13) rfl ?_
    show Steps p.tables e below (s₁.setTop (mkF m 14 #[.val (.ref a1), .val (.ref a1), .val (.int (3 : Int32)), .val (.int (0 : Int32)), .unset] [(.int (0 : Int32)), (.ref a1)])) _
    obtain ⟨cl2, Ar2, -, S2, M2, H2, -⟩ := (id V_a1)
    have hin2 : ¬ ((0 : Int32) < 0 ∨ cl2.slots.size ≤ ((0 : Int32)).toNatClampNeg) := inb_of S2 ⟨by decide, by decide⟩
    refine X0.iaload hx (j := (0 : Int32)) (v := (.int w0)) (by rw [e0]; exact Ar2.1) (State.isArrayOf_alike hZ.alike Ar2.2.1) Ar2.2.2 hin2 (H2.at hin2 rfl) (g := (mkF m 14 #[.val (.ref a1), .val (.ref a1), .val (.int (3 : Int32)), .val (.int (0 : Int32)), .unset] [(.int (0 : Int32)), (.ref a1)])) rfl rfl (hb hby d2_14) _ ?_
    show Steps p.tables e below (s₁.setTop (mkF m 15 #[.val (.ref a1), .val (.ref a1), .val (.int (3 : Int32)), .val (.int (0 : Int32)), .unset] [(.int w0)])) _
    refine XS.istore X0.here hx rfl (hb hby d2_15) rfl (l' := #[.val (.ref a1), .val (.ref a1), .val (.int (3 : Int32)), .val (.int (0 : Int32)), .val (.int w0)]) rfl ?_
    show Steps p.tables e below (s₁.setTop (mkF m 17 #[.val (.ref a1), .val (.ref a1), .val (.int (3 : Int32)), .val (.int (0 : Int32)), .val (.int w0)] [])) _
    refine XS.iload X0.here hx rfl (hb hby d2_17) rfl ?_
    show Steps p.tables e below (s₁.setTop (mkF m 19 #[.val (.ref a1), .val (.ref a1), .val (.int (3 : Int32)), .val (.int (0 : Int32)), .val (.int w0)] [(.int w0)])) _
    refine XS.sipush X0.here hx rfl (hb hby d2_19) ?_
    exact kt
  by_cases hc22 : w0 < (128 : Int32)
  · have pre4 : ∀ t, Steps p.tables e below (s₁.setTop (mkF m 27 #[.val (.ref a1), .val (.ref a1), .val (.int (3 : Int32)), .val (.int (0 : Int32)), .val (.int w0)] [])) t → Steps p.tables e below (s₁.setTop (entryFrame m #[(.ref a1)] 5)) t := by
      intro t kt
      refine pre3 t ?_
      show Steps p.tables e below (s₁.setTop (mkF m 22 #[.val (.ref a1), .val (.ref a1), .val (.int (3 : Int32)), .val (.int (0 : Int32)), .val (.int w0)] [(.int (128 : Int32)), (.int w0)])) _
      refine XS.icmpYes X0.here hx rfl (pc0 := 22) (pc' := 27) rfl (hb hby d2_22) rfl (tlt hc22).1 (by decide) (by decide) ?_
      exact kt
    have pre6 : ∀ t, Steps p.tables e below (s₁.setTop (mkF m 22 #[.val (.ref a1), .val (.ref a1), .val (.int (3 : Int32)), .val (.int (1 : Int32)), .val (.int w1)] [(.int (128 : Int32)), (.int w1)])) t → Steps p.tables e below (s₁.setTop (entryFrame m #[(.ref a1)] 5)) t := by
      intro t kt
      refine pre4 t ?_
      show Steps p.tables e below (s₁.setTop (mkF m 27 #[.val (.ref a1), .val (.ref a1), .val (.int (3 : Int32)), .val (.int (0 : Int32)), .val (.int w0)] [])) _
      refine XS.iinc X0.here hx rfl (hb hby d2_27) rfl (l' := #[.val (.ref a1), .val (.ref a1), .val (.int (3 : Int32)), .val (.int (1 : Int32)), .val (.int w0)]) rfl ?_
      show Steps p.tables e below (s₁.setTop (mkF m 30 #[.val (.ref a1), .val (.ref a1), .val (.int (3 : Int32)), .val (.int (1 : Int32)), .val (.int w0)] [])) _
      refine XS.goto X0.here hx rfl (pc0 := 30) (pc' := 7) rfl (hb hby d2_30) (by decide) (by decide) ?_
      show Steps p.tables e below (s₁.setTop (mkF m 7 #[.val (.ref a1), .val (.ref a1), .val (.int (3 : Int32)), .val (.int (1 : Int32)), .val (.int w0)] [])) _
      refine XS.iloadN X0.here hx rfl (hb hby d2_7) rfl ?_
      show Steps p.tables e below (s₁.setTop (mkF m 8 #[.val (.ref a1), .val (.ref a1), .val (.int (3 : Int32)), .val (.int (1 : Int32)), .val (.int w0)] [(.int (1 : Int32))])) _
      refine XS.iloadN X0.here hx rfl (hb hby d2_8) rfl ?_
      show Steps p.tables e below (s₁.setTop (mkF m 9 #[.val (.ref a1), .val (.ref a1), .val (.int (3 : Int32)), .val (.int (1 : Int32)), .val (.int w0)] [(.int (3 : Int32)), (.int (1 : Int32))])) _
      refine XS.icmpNo X0.here hx rfl (hb hby d2_9) rfl (tlt (by decide)).2.1 ?_
      show Steps p.tables e below (s₁.setTop (mkF m 12 #[.val (.ref a1), .val (.ref a1), .val (.int (3 : Int32)), .val (.int (1 : Int32)), .val (.int w0)] [])) _
      refine XS.aloadN X0.here hx rfl (hb hby d2_12) rfl rfl ?_
      show Steps p.tables e below (s₁.setTop (mkF m 13 #[.val (.ref a1), .val (.ref a1), .val (.int (3 : Int32)), .val (.int (1 : Int32)), .val (.int w0)] [(.ref a1)])) _
      refine XS.iloadN X0.here hx rfl (hb hby d2_13) rfl ?_
      show Steps p.tables e below (s₁.setTop (mkF m 14 #[.val (.ref a1), .val (.ref a1), .val (.int (3 : Int32)), .val (.int (1 : Int32)), .val (.int w0)] [(.int (1 : Int32)), (.ref a1)])) _
      obtain ⟨cl5, Ar5, -, S5, M5, H5, -⟩ := (id V_a1)
      have hin5 : ¬ ((1 : Int32) < 0 ∨ cl5.slots.size ≤ ((1 : Int32)).toNatClampNeg) := inb_of S5 ⟨by decide, by decide⟩
      refine X0.iaload hx (j := (1 : Int32)) (v := (.int w1)) (by rw [e0]; exact Ar5.1) (State.isArrayOf_alike hZ.alike Ar5.2.1) Ar5.2.2 hin5 (H5.at hin5 rfl) (g := (mkF m 14 #[.val (.ref a1), .val (.ref a1), .val (.int (3 : Int32)), .val (.int (1 : Int32)), .val (.int w0)] [(.int (1 : Int32)), (.ref a1)])) rfl rfl (hb hby d2_14) _ ?_
      show Steps p.tables e below (s₁.setTop (mkF m 15 #[.val (.ref a1), .val (.ref a1), .val (.int (3 : Int32)), .val (.int (1 : Int32)), .val (.int w0)] [(.int w1)])) _
      refine XS.istore X0.here hx rfl (hb hby d2_15) rfl (l' := #[.val (.ref a1), .val (.ref a1), .val (.int (3 : Int32)), .val (.int (1 : Int32)), .val (.int w1)]) rfl ?_
      show Steps p.tables e below (s₁.setTop (mkF m 17 #[.val (.ref a1), .val (.ref a1), .val (.int (3 : Int32)), .val (.int (1 : Int32)), .val (.int w1)] [])) _
      refine XS.iload X0.here hx rfl (hb hby d2_17) rfl ?_
      show Steps p.tables e below (s₁.setTop (mkF m 19 #[.val (.ref a1), .val (.ref a1), .val (.int (3 : Int32)), .val (.int (1 : Int32)), .val (.int w1)] [(.int w1)])) _
      refine XS.sipush X0.here hx rfl (hb hby d2_19) ?_
      exact kt
    by_cases hc22_1 : w1 < (128 : Int32)
    · have pre7 : ∀ t, Steps p.tables e below (s₁.setTop (mkF m 27 #[.val (.ref a1), .val (.ref a1), .val (.int (3 : Int32)), .val (.int (1 : Int32)), .val (.int w1)] [])) t → Steps p.tables e below (s₁.setTop (entryFrame m #[(.ref a1)] 5)) t := by
        intro t kt
        refine pre6 t ?_
        show Steps p.tables e below (s₁.setTop (mkF m 22 #[.val (.ref a1), .val (.ref a1), .val (.int (3 : Int32)), .val (.int (1 : Int32)), .val (.int w1)] [(.int (128 : Int32)), (.int w1)])) _
        refine XS.icmpYes X0.here hx rfl (pc0 := 22) (pc' := 27) rfl (hb hby d2_22) rfl (tlt hc22_1).1 (by decide) (by decide) ?_
        exact kt
      have pre9 : ∀ t, Steps p.tables e below (s₁.setTop (mkF m 22 #[.val (.ref a1), .val (.ref a1), .val (.int (3 : Int32)), .val (.int (2 : Int32)), .val (.int w2)] [(.int (128 : Int32)), (.int w2)])) t → Steps p.tables e below (s₁.setTop (entryFrame m #[(.ref a1)] 5)) t := by
        intro t kt
        refine pre7 t ?_
        show Steps p.tables e below (s₁.setTop (mkF m 27 #[.val (.ref a1), .val (.ref a1), .val (.int (3 : Int32)), .val (.int (1 : Int32)), .val (.int w1)] [])) _
        refine XS.iinc X0.here hx rfl (hb hby d2_27) rfl (l' := #[.val (.ref a1), .val (.ref a1), .val (.int (3 : Int32)), .val (.int (2 : Int32)), .val (.int w1)]) rfl ?_
        show Steps p.tables e below (s₁.setTop (mkF m 30 #[.val (.ref a1), .val (.ref a1), .val (.int (3 : Int32)), .val (.int (2 : Int32)), .val (.int w1)] [])) _
        refine XS.goto X0.here hx rfl (pc0 := 30) (pc' := 7) rfl (hb hby d2_30) (by decide) (by decide) ?_
        show Steps p.tables e below (s₁.setTop (mkF m 7 #[.val (.ref a1), .val (.ref a1), .val (.int (3 : Int32)), .val (.int (2 : Int32)), .val (.int w1)] [])) _
        refine XS.iloadN X0.here hx rfl (hb hby d2_7) rfl ?_
        show Steps p.tables e below (s₁.setTop (mkF m 8 #[.val (.ref a1), .val (.ref a1), .val (.int (3 : Int32)), .val (.int (2 : Int32)), .val (.int w1)] [(.int (2 : Int32))])) _
        refine XS.iloadN X0.here hx rfl (hb hby d2_8) rfl ?_
        show Steps p.tables e below (s₁.setTop (mkF m 9 #[.val (.ref a1), .val (.ref a1), .val (.int (3 : Int32)), .val (.int (2 : Int32)), .val (.int w1)] [(.int (3 : Int32)), (.int (2 : Int32))])) _
        refine XS.icmpNo X0.here hx rfl (hb hby d2_9) rfl (tlt (by decide)).2.1 ?_
        show Steps p.tables e below (s₁.setTop (mkF m 12 #[.val (.ref a1), .val (.ref a1), .val (.int (3 : Int32)), .val (.int (2 : Int32)), .val (.int w1)] [])) _
        refine XS.aloadN X0.here hx rfl (hb hby d2_12) rfl rfl ?_
        show Steps p.tables e below (s₁.setTop (mkF m 13 #[.val (.ref a1), .val (.ref a1), .val (.int (3 : Int32)), .val (.int (2 : Int32)), .val (.int w1)] [(.ref a1)])) _
        refine XS.iloadN X0.here hx rfl (hb hby d2_13) rfl ?_
        show Steps p.tables e below (s₁.setTop (mkF m 14 #[.val (.ref a1), .val (.ref a1), .val (.int (3 : Int32)), .val (.int (2 : Int32)), .val (.int w1)] [(.int (2 : Int32)), (.ref a1)])) _
        obtain ⟨cl8, Ar8, -, S8, M8, H8, -⟩ := (id V_a1)
        have hin8 : ¬ ((2 : Int32) < 0 ∨ cl8.slots.size ≤ ((2 : Int32)).toNatClampNeg) := inb_of S8 ⟨by decide, by decide⟩
        refine X0.iaload hx (j := (2 : Int32)) (v := (.int w2)) (by rw [e0]; exact Ar8.1) (State.isArrayOf_alike hZ.alike Ar8.2.1) Ar8.2.2 hin8 (H8.at hin8 rfl) (g := (mkF m 14 #[.val (.ref a1), .val (.ref a1), .val (.int (3 : Int32)), .val (.int (2 : Int32)), .val (.int w1)] [(.int (2 : Int32)), (.ref a1)])) rfl rfl (hb hby d2_14) _ ?_
        show Steps p.tables e below (s₁.setTop (mkF m 15 #[.val (.ref a1), .val (.ref a1), .val (.int (3 : Int32)), .val (.int (2 : Int32)), .val (.int w1)] [(.int w2)])) _
        refine XS.istore X0.here hx rfl (hb hby d2_15) rfl (l' := #[.val (.ref a1), .val (.ref a1), .val (.int (3 : Int32)), .val (.int (2 : Int32)), .val (.int w2)]) rfl ?_
        show Steps p.tables e below (s₁.setTop (mkF m 17 #[.val (.ref a1), .val (.ref a1), .val (.int (3 : Int32)), .val (.int (2 : Int32)), .val (.int w2)] [])) _
        refine XS.iload X0.here hx rfl (hb hby d2_17) rfl ?_
        show Steps p.tables e below (s₁.setTop (mkF m 19 #[.val (.ref a1), .val (.ref a1), .val (.int (3 : Int32)), .val (.int (2 : Int32)), .val (.int w2)] [(.int w2)])) _
        refine XS.sipush X0.here hx rfl (hb hby d2_19) ?_
        exact kt
      by_cases hc22_2 : w2 < (128 : Int32)
      · have pre10 : ∀ t, Steps p.tables e below (s₁.setTop (mkF m 27 #[.val (.ref a1), .val (.ref a1), .val (.int (3 : Int32)), .val (.int (2 : Int32)), .val (.int w2)] [])) t → Steps p.tables e below (s₁.setTop (entryFrame m #[(.ref a1)] 5)) t := by
          intro t kt
          refine pre9 t ?_
          show Steps p.tables e below (s₁.setTop (mkF m 22 #[.val (.ref a1), .val (.ref a1), .val (.int (3 : Int32)), .val (.int (2 : Int32)), .val (.int w2)] [(.int (128 : Int32)), (.int w2)])) _
          refine XS.icmpYes X0.here hx rfl (pc0 := 22) (pc' := 27) rfl (hb hby d2_22) rfl (tlt hc22_2).1 (by decide) (by decide) ?_
          exact kt
        have pre11 : ∀ t, Steps p.tables e below (s₁.setTop (mkF m 34 #[.val (.ref a1), .val (.ref a1), .val (.int (3 : Int32)), .val (.int (3 : Int32)), .val (.int w2)] [(.int (1 : Int32))])) t → Steps p.tables e below (s₁.setTop (entryFrame m #[(.ref a1)] 5)) t := by
          intro t kt
          refine pre10 t ?_
          show Steps p.tables e below (s₁.setTop (mkF m 27 #[.val (.ref a1), .val (.ref a1), .val (.int (3 : Int32)), .val (.int (2 : Int32)), .val (.int w2)] [])) _
          refine XS.iinc X0.here hx rfl (hb hby d2_27) rfl (l' := #[.val (.ref a1), .val (.ref a1), .val (.int (3 : Int32)), .val (.int (3 : Int32)), .val (.int w2)]) rfl ?_
          show Steps p.tables e below (s₁.setTop (mkF m 30 #[.val (.ref a1), .val (.ref a1), .val (.int (3 : Int32)), .val (.int (3 : Int32)), .val (.int w2)] [])) _
          refine XS.goto X0.here hx rfl (pc0 := 30) (pc' := 7) rfl (hb hby d2_30) (by decide) (by decide) ?_
          show Steps p.tables e below (s₁.setTop (mkF m 7 #[.val (.ref a1), .val (.ref a1), .val (.int (3 : Int32)), .val (.int (3 : Int32)), .val (.int w2)] [])) _
          refine XS.iloadN X0.here hx rfl (hb hby d2_7) rfl ?_
          show Steps p.tables e below (s₁.setTop (mkF m 8 #[.val (.ref a1), .val (.ref a1), .val (.int (3 : Int32)), .val (.int (3 : Int32)), .val (.int w2)] [(.int (3 : Int32))])) _
          refine XS.iloadN X0.here hx rfl (hb hby d2_8) rfl ?_
          show Steps p.tables e below (s₁.setTop (mkF m 9 #[.val (.ref a1), .val (.ref a1), .val (.int (3 : Int32)), .val (.int (3 : Int32)), .val (.int w2)] [(.int (3 : Int32)), (.int (3 : Int32))])) _
          refine XS.icmpYes X0.here hx rfl (pc0 := 9) (pc' := 33) rfl (hb hby d2_9) rfl (flt (by decide)).2.1 (by decide) (by decide) ?_
          show Steps p.tables e below (s₁.setTop (mkF m 33 #[.val (.ref a1), .val (.ref a1), .val (.int (3 : Int32)), .val (.int (3 : Int32)), .val (.int w2)] [])) _
          refine XS.iconst X0.here hx rfl (hb hby d2_33) ?_
          exact kt
        have hres : (1 : Int32) = (if w0 < (128 : Int32) then (if w1 < (128 : Int32) then (if w2 < (128 : Int32) then (1 : Int32) else (0 : Int32)) else (0 : Int32)) else (0 : Int32)) := by simp [hc22, hc22_1, hc22_2]
        obtain ⟨fs, hr, hrun, hended, hW, hsame⟩ := X0.leave (v := some (.int (1 : Int32))) (fun h => by rw [Bd.returns] at h; cases h)
        refine ⟨_, _, pre11 _ ?_, hrun, hended, _, _, rfl, ?_, ⟨_, rfl⟩, hW, hsame.mono (by decide) (by decide)⟩
        · show Steps p.tables e below (s₁.setTop (mkF m 34 #[.val (.ref a1), .val (.ref a1), .val (.int (3 : Int32)), .val (.int (3 : Int32)), .val (.int w2)] [(.int (1 : Int32))])) _
          exact retN X0 hx (t := .boolean) Bd.returns (by simp) (hb hby d2_34) hr
        · show Qrm2_3 Z a1 kd w0 w1 w2 h0 n0 _ s₁.heap _
          rw [e0]
          exact ⟨congrArg some (congrArg Value.int hres), N0, rfl⟩
      · have pre12 : ∀ t, Steps p.tables e below (s₁.setTop (mkF m 25 #[.val (.ref a1), .val (.ref a1), .val (.int (3 : Int32)), .val (.int (2 : Int32)), .val (.int w2)] [])) t → Steps p.tables e below (s₁.setTop (entryFrame m #[(.ref a1)] 5)) t := by
          intro t kt
          refine pre9 t ?_
          show Steps p.tables e below (s₁.setTop (mkF m 22 #[.val (.ref a1), .val (.ref a1), .val (.int (3 : Int32)), .val (.int (2 : Int32)), .val (.int w2)] [(.int (128 : Int32)), (.int w2)])) _
          refine XS.icmpNo X0.here hx rfl (hb hby d2_22) rfl (flt hc22_2).1 ?_
          exact kt
        have pre13 : ∀ t, Steps p.tables e below (s₁.setTop (mkF m 26 #[.val (.ref a1), .val (.ref a1), .val (.int (3 : Int32)), .val (.int (2 : Int32)), .val (.int w2)] [(.int (0 : Int32))])) t → Steps p.tables e below (s₁.setTop (entryFrame m #[(.ref a1)] 5)) t := by
          intro t kt
          refine pre12 t ?_
          show Steps p.tables e below (s₁.setTop (mkF m 25 #[.val (.ref a1), .val (.ref a1), .val (.int (3 : Int32)), .val (.int (2 : Int32)), .val (.int w2)] [])) _
          refine XS.iconst X0.here hx rfl (hb hby d2_25) ?_
          exact kt
        have hres : (0 : Int32) = (if w0 < (128 : Int32) then (if w1 < (128 : Int32) then (if w2 < (128 : Int32) then (1 : Int32) else (0 : Int32)) else (0 : Int32)) else (0 : Int32)) := by simp [hc22, hc22_1, hc22_2]
        obtain ⟨fs, hr, hrun, hended, hW, hsame⟩ := X0.leave (v := some (.int (0 : Int32))) (fun h => by rw [Bd.returns] at h; cases h)
        refine ⟨_, _, pre13 _ ?_, hrun, hended, _, _, rfl, ?_, ⟨_, rfl⟩, hW, hsame.mono (by decide) (by decide)⟩
        · show Steps p.tables e below (s₁.setTop (mkF m 26 #[.val (.ref a1), .val (.ref a1), .val (.int (3 : Int32)), .val (.int (2 : Int32)), .val (.int w2)] [(.int (0 : Int32))])) _
          exact retN X0 hx (t := .boolean) Bd.returns (by simp) (hb hby d2_26) hr
        · show Qrm2_3 Z a1 kd w0 w1 w2 h0 n0 _ s₁.heap _
          rw [e0]
          exact ⟨congrArg some (congrArg Value.int hres), N0, rfl⟩
    · have pre14 : ∀ t, Steps p.tables e below (s₁.setTop (mkF m 25 #[.val (.ref a1), .val (.ref a1), .val (.int (3 : Int32)), .val (.int (1 : Int32)), .val (.int w1)] [])) t → Steps p.tables e below (s₁.setTop (entryFrame m #[(.ref a1)] 5)) t := by
        intro t kt
        refine pre6 t ?_
        show Steps p.tables e below (s₁.setTop (mkF m 22 #[.val (.ref a1), .val (.ref a1), .val (.int (3 : Int32)), .val (.int (1 : Int32)), .val (.int w1)] [(.int (128 : Int32)), (.int w1)])) _
        refine XS.icmpNo X0.here hx rfl (hb hby d2_22) rfl (flt hc22_1).1 ?_
        exact kt
      have pre15 : ∀ t, Steps p.tables e below (s₁.setTop (mkF m 26 #[.val (.ref a1), .val (.ref a1), .val (.int (3 : Int32)), .val (.int (1 : Int32)), .val (.int w1)] [(.int (0 : Int32))])) t → Steps p.tables e below (s₁.setTop (entryFrame m #[(.ref a1)] 5)) t := by
        intro t kt
        refine pre14 t ?_
        show Steps p.tables e below (s₁.setTop (mkF m 25 #[.val (.ref a1), .val (.ref a1), .val (.int (3 : Int32)), .val (.int (1 : Int32)), .val (.int w1)] [])) _
        refine XS.iconst X0.here hx rfl (hb hby d2_25) ?_
        exact kt
      have hres : (0 : Int32) = (if w0 < (128 : Int32) then (if w1 < (128 : Int32) then (if w2 < (128 : Int32) then (1 : Int32) else (0 : Int32)) else (0 : Int32)) else (0 : Int32)) := by simp [hc22, hc22_1]
      obtain ⟨fs, hr, hrun, hended, hW, hsame⟩ := X0.leave (v := some (.int (0 : Int32))) (fun h => by rw [Bd.returns] at h; cases h)
      refine ⟨_, _, pre15 _ ?_, hrun, hended, _, _, rfl, ?_, ⟨_, rfl⟩, hW, hsame.mono (by decide) (by decide)⟩
      · show Steps p.tables e below (s₁.setTop (mkF m 26 #[.val (.ref a1), .val (.ref a1), .val (.int (3 : Int32)), .val (.int (1 : Int32)), .val (.int w1)] [(.int (0 : Int32))])) _
        exact retN X0 hx (t := .boolean) Bd.returns (by simp) (hb hby d2_26) hr
      · show Qrm2_3 Z a1 kd w0 w1 w2 h0 n0 _ s₁.heap _
        rw [e0]
        exact ⟨congrArg some (congrArg Value.int hres), N0, rfl⟩
  · have pre16 : ∀ t, Steps p.tables e below (s₁.setTop (mkF m 25 #[.val (.ref a1), .val (.ref a1), .val (.int (3 : Int32)), .val (.int (0 : Int32)), .val (.int w0)] [])) t → Steps p.tables e below (s₁.setTop (entryFrame m #[(.ref a1)] 5)) t := by
      intro t kt
      refine pre3 t ?_
      show Steps p.tables e below (s₁.setTop (mkF m 22 #[.val (.ref a1), .val (.ref a1), .val (.int (3 : Int32)), .val (.int (0 : Int32)), .val (.int w0)] [(.int (128 : Int32)), (.int w0)])) _
      refine XS.icmpNo X0.here hx rfl (hb hby d2_22) rfl (flt hc22).1 ?_
      exact kt
    have pre17 : ∀ t, Steps p.tables e below (s₁.setTop (mkF m 26 #[.val (.ref a1), .val (.ref a1), .val (.int (3 : Int32)), .val (.int (0 : Int32)), .val (.int w0)] [(.int (0 : Int32))])) t → Steps p.tables e below (s₁.setTop (entryFrame m #[(.ref a1)] 5)) t := by
      intro t kt
      refine pre16 t ?_
      show Steps p.tables e below (s₁.setTop (mkF m 25 #[.val (.ref a1), .val (.ref a1), .val (.int (3 : Int32)), .val (.int (0 : Int32)), .val (.int w0)] [])) _
      refine XS.iconst X0.here hx rfl (hb hby d2_25) ?_
      exact kt
    have hres : (0 : Int32) = (if w0 < (128 : Int32) then (if w1 < (128 : Int32) then (if w2 < (128 : Int32) then (1 : Int32) else (0 : Int32)) else (0 : Int32)) else (0 : Int32)) := by simp [hc22]
    obtain ⟨fs, hr, hrun, hended, hW, hsame⟩ := X0.leave (v := some (.int (0 : Int32))) (fun h => by rw [Bd.returns] at h; cases h)
    refine ⟨_, _, pre17 _ ?_, hrun, hended, _, _, rfl, ?_, ⟨_, rfl⟩, hW, hsame.mono (by decide) (by decide)⟩
    · show Steps p.tables e below (s₁.setTop (mkF m 26 #[.val (.ref a1), .val (.ref a1), .val (.int (3 : Int32)), .val (.int (0 : Int32)), .val (.int w0)] [(.int (0 : Int32))])) _
      exact retN X0 hx (t := .boolean) Bd.returns (by simp) (hb hby d2_26) hr
    · show Qrm2_3 Z a1 kd w0 w1 w2 h0 n0 _ s₁.heap _
      rw [e0]
      exact ⟨congrArg some (congrArg Value.int hres), N0, rfl⟩
def Q0 (n0 : Nat) (v : Option Value) (h : Heap) (L : List Loc) : Prop := v = some (.int (1 : Int32)) ∧ Fr n0 L
theorem ef_0 (m : MethodId) (x0 : Int32) (x1 : Int32) (x2 : Int32) (x3 : Int32) : entryFrame m #[(.int x0), (.int x1), (.int x2), (.int x3)] maxLocals = mkF m 0 #[.val (.int x0), .val (.int x1), .val (.int x2), .val (.int x3), .unset, .unset, .unset, .unset, .unset, .unset] [] := by first | (simp [entryFrame, mkF, argsToLocals, Value.category, maxLocals]; done) | rfl
set_option maxRecDepth 65536 in
set_option maxHeartbeats 40000000 in
theorem rm0 (l : Launch) (Z : State) (a0 : Array Value) (hw : ∀ d ∈ tables_1, d.before a0 Z = true) (ws : List Jvm.Cond) (p1 : Int32) (p2 : Int32) (p3 : Int32) (p4 : Int32) (h0 : Heap) (n0 : Nat) (Z0 : n0 ≤ h0.size) :
    MetFree l x (head1 (Jvm.Cond.code x code maxLocals ret :: ws) room_1) (fun a U => a = #[(.int p1), (.int p2), (.int p3), (.int p4)] ∧ Z.Warmed39 U.vm ∧ U.heap = h0) (fun _ _ _ _ _ => True) (fun _ U o U' => ∃ v L, o = .returned v ∧ Q0 n0 v U'.heap L ∧ FrameEnd U o U' L room_1.cells room_1.slots) := by
  refine MetFree.of_bodySF (plainFor_of_name pn_0) hisR ?_
  intro p e s m args below meth c s₁ Bd hml0 hP hK
  obtain ⟨rfl, hZ, hh⟩ := hP
  have hx := Bd.exec
  have hby := Bd.bytes
  have hml : c.maxLocals = 10 := hml0
  have hown : s.vm.findClass own_k2 = some m.cls := findClass_of_methodNamed Bd.named
  have hnm := (name_of_methodNamed Bd.named Bd.method).1
  have X0 : Stand p l e room_1 s m #[(.int p1), (.int p2), (.int p3), (.int p4)] below meth c s₁ [] 0 0 := Stand.of_body Bd
  have e0 : s₁.heap = h0 := by rw [← hh, Bd.state]; rfl
  have N0 := Fr.nil n0
  have pre0 : ∀ t, Steps p.tables e below (s₁.setTop (mkF m 0 #[.val (.int p1), .val (.int p2), .val (.int p3), .val (.int p4), .unset, .unset, .unset, .unset, .unset, .unset] [])) t → Steps p.tables e below (s₁.setTop (entryFrame m #[(.int p1), (.int p2), (.int p3), (.int p4)] maxLocals)) t := fun t k => castTop (ef_0 m p1 p2 p3 p4) k
  have pre1 : ∀ t, Steps p.tables e below (s₁.setTop (mkF m 6 #[.val (.int p1), .val (.int p2), .val (.int p3), .val (.int p4), .val (.int (p1 &&& (3 : Int32))), .unset, .unset, .unset, .unset, .unset] [(.int p2)])) t → Steps p.tables e below (s₁.setTop (entryFrame m #[(.int p1), (.int p2), (.int p3), (.int p4)] maxLocals)) t := by
    intro t kt
    refine pre0 t ?_
    show Steps p.tables e below (s₁.setTop (mkF m 0 #[.val (.int p1), .val (.int p2), .val (.int p3), .val (.int p4), .unset, .unset, .unset, .unset, .unset, .unset] [])) _
    refine XS.iloadN X0.here hx rfl (hb hby at_0) rfl ?_
    show Steps p.tables e below (s₁.setTop (mkF m 1 #[.val (.int p1), .val (.int p2), .val (.int p3), .val (.int p4), .unset, .unset, .unset, .unset, .unset, .unset] [(.int p1)])) _
    refine XS.iconst X0.here hx rfl (hb hby at_1) ?_
    show Steps p.tables e below (s₁.setTop (mkF m 2 #[.val (.int p1), .val (.int p2), .val (.int p3), .val (.int p4), .unset, .unset, .unset, .unset, .unset, .unset] [(.int (3 : Int32)), (.int p1)])) _
    refine XS.iand X0.here hx rfl (hb hby at_2) rfl ?_
    show Steps p.tables e below (s₁.setTop (mkF m 3 #[.val (.int p1), .val (.int p2), .val (.int p3), .val (.int p4), .unset, .unset, .unset, .unset, .unset, .unset] [(.int (p1 &&& (3 : Int32)))])) _
    refine XS.istore X0.here hx rfl (hb hby at_3) rfl (l' := #[.val (.int p1), .val (.int p2), .val (.int p3), .val (.int p4), .val (.int (p1 &&& (3 : Int32))), .unset, .unset, .unset, .unset, .unset]) rfl ?_
    show Steps p.tables e below (s₁.setTop (mkF m 5 #[.val (.int p1), .val (.int p2), .val (.int p3), .val (.int p4), .val (.int (p1 &&& (3 : Int32))), .unset, .unset, .unset, .unset, .unset] [])) _
    refine XS.iloadN X0.here hx rfl (hb hby at_5) rfl ?_
    exact kt
  obtain ⟨_, _, ⟨T2, L2, k2, n2⟩, -, X2, ⟨Lc2, hQ2, l2, y2, z2⟩, st2⟩ := Jvm.LawKit.callS X0 hx (y := (⟨own_k2, "cp", "(I)I"⟩ : MethodName)) hown (mvT hZ (hw _ (List.mem_of_getElem? (i := 0) rfl))) (mvT hZ (hw _ (List.mem_of_getElem? (i := 1) rfl))) (mvT hZ (hw _ (List.mem_of_getElem? (i := 2) rfl))) (mvT hZ (hw _ (List.mem_of_getElem? (i := 3) rfl))) (by decide) (backOf (W := 0) (rm1 l Z a0 hw [] p2 h0 n0) hZ (hw _ (List.mem_of_getElem? (i := 3) rfl)) (hw _ (List.mem_of_getElem? (i := 2) rfl)) (by decide) (by decide)) (g := (mkF m 6 #[.val (.int p1), .val (.int p2), .val (.int p3), .val (.int p4), .val (.int (p1 &&& (3 : Int32))), .unset, .unset, .unset, .unset, .unset] [(.int p2)])) rfl (by rw [hml]; rfl) (argsL := [(.int p2)]) (rest := []) (lenOf pd_0 rfl) rfl (by show 2 * 0 + _ ≤ _; exact Nat.le_of_eq rfl) (hb hby at_6) (fun _ _ => ⟨rfl, e0, (by decide : 0 + 0 ≤ _), (by decide : 0 + 0 ≤ _)⟩)
  dsimp only [Pt.U, Pt.locs, Pt.cells, Pt.slots] at X2 l2 y2 z2 st2 hQ2
  subst l2 y2 z2
  obtain ⟨rfl, N2q, e2⟩ := hQ2
  have N2 := Fr.app N0 N2q
  have pre2 : ∀ t, Steps p.tables e below (T2.setTop (mkF m 9 #[.val (.int p1), .val (.int p2), .val (.int p3), .val (.int p4), .val (.int (p1 &&& (3 : Int32))), .unset, .unset, .unset, .unset, .unset] [(.int (own_f1 p2))])) t → Steps p.tables e below (s₁.setTop (entryFrame m #[(.int p1), (.int p2), (.int p3), (.int p4)] maxLocals)) t := fun t kt => pre1 t (st2 _ kt)
  have pre3 : ∀ t, Steps p.tables e below (T2.setTop (mkF m 12 #[.val (.int p1), .val (.int p2), .val (.int p3), .val (.int p4), .val (.int (p1 &&& (3 : Int32))), .val (.int (own_f1 p2)), .unset, .unset, .unset, .unset] [(.int p3)])) t → Steps p.tables e below (s₁.setTop (entryFrame m #[(.int p1), (.int p2), (.int p3), (.int p4)] maxLocals)) t := by
    intro t kt
    refine pre2 t ?_
    show Steps p.tables e below (T2.setTop (mkF m 9 #[.val (.int p1), .val (.int p2), .val (.int p3), .val (.int p4), .val (.int (p1 &&& (3 : Int32))), .unset, .unset, .unset, .unset, .unset] [(.int (own_f1 p2))])) _
    refine XS.istore X2.here hx rfl (hb hby at_9) rfl (l' := #[.val (.int p1), .val (.int p2), .val (.int p3), .val (.int p4), .val (.int (p1 &&& (3 : Int32))), .val (.int (own_f1 p2)), .unset, .unset, .unset, .unset]) rfl ?_
    show Steps p.tables e below (T2.setTop (mkF m 11 #[.val (.int p1), .val (.int p2), .val (.int p3), .val (.int p4), .val (.int (p1 &&& (3 : Int32))), .val (.int (own_f1 p2)), .unset, .unset, .unset, .unset] [])) _
    refine XS.iloadN X2.here hx rfl (hb hby at_11) rfl ?_
    exact kt
  obtain ⟨_, _, ⟨T4, L4, k4, n4⟩, -, X4, ⟨Lc4, hQ4, l4, y4, z4⟩, st4⟩ := Jvm.LawKit.callS X2 hx (y := (⟨own_k2, "cp", "(I)I"⟩ : MethodName)) hown (mvT hZ (hw _ (List.mem_of_getElem? (i := 0) rfl))) (mvT hZ (hw _ (List.mem_of_getElem? (i := 1) rfl))) (mvT hZ (hw _ (List.mem_of_getElem? (i := 2) rfl))) (mvT hZ (hw _ (List.mem_of_getElem? (i := 3) rfl))) (by decide) (backOf (W := 0) (rm1 l Z a0 hw [] p3 h0 n0) hZ (hw _ (List.mem_of_getElem? (i := 3) rfl)) (hw _ (List.mem_of_getElem? (i := 2) rfl)) (by decide) (by decide)) (g := (mkF m 12 #[.val (.int p1), .val (.int p2), .val (.int p3), .val (.int p4), .val (.int (p1 &&& (3 : Int32))), .val (.int (own_f1 p2)), .unset, .unset, .unset, .unset] [(.int p3)])) rfl (by rw [hml]; rfl) (argsL := [(.int p3)]) (rest := []) (lenOf pd_0 rfl) rfl (by show 2 * 0 + _ ≤ _; exact Nat.le_of_eq rfl) (hb hby at_12) (fun _ _ => ⟨rfl, e2, (by decide : 0 + 0 ≤ _), (by decide : 0 + 0 ≤ _)⟩)
  dsimp only [Pt.U, Pt.locs, Pt.cells, Pt.slots] at X4 l4 y4 z4 st4 hQ4
  subst l4 y4 z4
  obtain ⟨rfl, N4q, e4⟩ := hQ4
  have N4 := Fr.app N2 N4q
  have pre4 : ∀ t, Steps p.tables e below (T4.setTop (mkF m 15 #[.val (.int p1), .val (.int p2), .val (.int p3), .val (.int p4), .val (.int (p1 &&& (3 : Int32))), .val (.int (own_f1 p2)), .unset, .unset, .unset, .unset] [(.int (own_f1 p3))])) t → Steps p.tables e below (s₁.setTop (entryFrame m #[(.int p1), (.int p2), (.int p3), (.int p4)] maxLocals)) t := fun t kt => pre3 t (st4 _ kt)
  have pre5 : ∀ t, Steps p.tables e below (T4.setTop (mkF m 18 #[.val (.int p1), .val (.int p2), .val (.int p3), .val (.int p4), .val (.int (p1 &&& (3 : Int32))), .val (.int (own_f1 p2)), .val (.int (own_f1 p3)), .unset, .unset, .unset] [(.int p4)])) t → Steps p.tables e below (s₁.setTop (entryFrame m #[(.int p1), (.int p2), (.int p3), (.int p4)] maxLocals)) t := by
    intro t kt
    refine pre4 t ?_
    show Steps p.tables e below (T4.setTop (mkF m 15 #[.val (.int p1), .val (.int p2), .val (.int p3), .val (.int p4), .val (.int (p1 &&& (3 : Int32))), .val (.int (own_f1 p2)), .unset, .unset, .unset, .unset] [(.int (own_f1 p3))])) _
    refine XS.istore X4.here hx rfl (hb hby at_15) rfl (l' := #[.val (.int p1), .val (.int p2), .val (.int p3), .val (.int p4), .val (.int (p1 &&& (3 : Int32))), .val (.int (own_f1 p2)), .val (.int (own_f1 p3)), .unset, .unset, .unset]) rfl ?_
    show Steps p.tables e below (T4.setTop (mkF m 17 #[.val (.int p1), .val (.int p2), .val (.int p3), .val (.int p4), .val (.int (p1 &&& (3 : Int32))), .val (.int (own_f1 p2)), .val (.int (own_f1 p3)), .unset, .unset, .unset] [])) _
    refine XS.iloadN X4.here hx rfl (hb hby at_17) rfl ?_
    exact kt
  obtain ⟨_, _, ⟨T6, L6, k6, n6⟩, -, X6, ⟨Lc6, hQ6, l6, y6, z6⟩, st6⟩ := Jvm.LawKit.callS X4 hx (y := (⟨own_k2, "cp", "(I)I"⟩ : MethodName)) hown (mvT hZ (hw _ (List.mem_of_getElem? (i := 0) rfl))) (mvT hZ (hw _ (List.mem_of_getElem? (i := 1) rfl))) (mvT hZ (hw _ (List.mem_of_getElem? (i := 2) rfl))) (mvT hZ (hw _ (List.mem_of_getElem? (i := 3) rfl))) (by decide) (backOf (W := 0) (rm1 l Z a0 hw [] p4 h0 n0) hZ (hw _ (List.mem_of_getElem? (i := 3) rfl)) (hw _ (List.mem_of_getElem? (i := 2) rfl)) (by decide) (by decide)) (g := (mkF m 18 #[.val (.int p1), .val (.int p2), .val (.int p3), .val (.int p4), .val (.int (p1 &&& (3 : Int32))), .val (.int (own_f1 p2)), .val (.int (own_f1 p3)), .unset, .unset, .unset] [(.int p4)])) rfl (by rw [hml]; rfl) (argsL := [(.int p4)]) (rest := []) (lenOf pd_0 rfl) rfl (by show 2 * 0 + _ ≤ _; exact Nat.le_of_eq rfl) (hb hby at_18) (fun _ _ => ⟨rfl, e4, (by decide : 0 + 0 ≤ _), (by decide : 0 + 0 ≤ _)⟩)
  dsimp only [Pt.U, Pt.locs, Pt.cells, Pt.slots] at X6 l6 y6 z6 st6 hQ6
  subst l6 y6 z6
  obtain ⟨rfl, N6q, e6⟩ := hQ6
  have N6 := Fr.app N4 N6q
  have pre6 : ∀ t, Steps p.tables e below (T6.setTop (mkF m 21 #[.val (.int p1), .val (.int p2), .val (.int p3), .val (.int p4), .val (.int (p1 &&& (3 : Int32))), .val (.int (own_f1 p2)), .val (.int (own_f1 p3)), .unset, .unset, .unset] [(.int (own_f1 p4))])) t → Steps p.tables e below (s₁.setTop (entryFrame m #[(.int p1), (.int p2), (.int p3), (.int p4)] maxLocals)) t := fun t kt => pre5 t (st6 _ kt)
  have pre7 : ∀ t, Steps p.tables e below (T6.setTop (mkF m 25 #[.val (.int p1), .val (.int p2), .val (.int p3), .val (.int p4), .val (.int (p1 &&& (3 : Int32))), .val (.int (own_f1 p2)), .val (.int (own_f1 p3)), .val (.int (own_f1 p4)), .unset, .unset] [(.int (p1 &&& (3 : Int32)))])) t → Steps p.tables e below (s₁.setTop (entryFrame m #[(.int p1), (.int p2), (.int p3), (.int p4)] maxLocals)) t := by
    intro t kt
    refine pre6 t ?_
    show Steps p.tables e below (T6.setTop (mkF m 21 #[.val (.int p1), .val (.int p2), .val (.int p3), .val (.int p4), .val (.int (p1 &&& (3 : Int32))), .val (.int (own_f1 p2)), .val (.int (own_f1 p3)), .unset, .unset, .unset] [(.int (own_f1 p4))])) _
    refine XS.istore X6.here hx rfl (hb hby at_21) rfl (l' := #[.val (.int p1), .val (.int p2), .val (.int p3), .val (.int p4), .val (.int (p1 &&& (3 : Int32))), .val (.int (own_f1 p2)), .val (.int (own_f1 p3)), .val (.int (own_f1 p4)), .unset, .unset]) rfl ?_
    show Steps p.tables e below (T6.setTop (mkF m 23 #[.val (.int p1), .val (.int p2), .val (.int p3), .val (.int p4), .val (.int (p1 &&& (3 : Int32))), .val (.int (own_f1 p2)), .val (.int (own_f1 p3)), .val (.int (own_f1 p4)), .unset, .unset] [])) _
    refine XS.iload X6.here hx rfl (hb hby at_23) rfl ?_
    exact kt
  by_cases hc25 : (p1 &&& (3 : Int32)) = (0 : Int32)
  · have pre8 : ∀ t, Steps p.tables e below (T6.setTop (mkF m 28 #[.val (.int p1), .val (.int p2), .val (.int p3), .val (.int p4), .val (.int (p1 &&& (3 : Int32))), .val (.int (own_f1 p2)), .val (.int (own_f1 p3)), .val (.int (own_f1 p4)), .unset, .unset] [])) t → Steps p.tables e below (s₁.setTop (entryFrame m #[(.int p1), (.int p2), (.int p3), (.int p4)] maxLocals)) t := by
      intro t kt
      refine pre7 t ?_
      show Steps p.tables e below (T6.setTop (mkF m 25 #[.val (.int p1), .val (.int p2), .val (.int p3), .val (.int p4), .val (.int (p1 &&& (3 : Int32))), .val (.int (own_f1 p2)), .val (.int (own_f1 p3)), .val (.int (own_f1 p4)), .unset, .unset] [(.int (p1 &&& (3 : Int32)))])) _
      refine XS.ifNo X6.here hx rfl (hb hby at_25) rfl ((if0 _ _).trans (teq hc25).2) ?_
      exact kt
    have pre9 : ∀ t, Steps p.tables e below (T6.setTop (mkF m 29 #[.val (.int p1), .val (.int p2), .val (.int p3), .val (.int p4), .val (.int (p1 &&& (3 : Int32))), .val (.int (own_f1 p2)), .val (.int (own_f1 p3)), .val (.int (own_f1 p4)), .unset, .unset] [(.int (0 : Int32))])) t → Steps p.tables e below (s₁.setTop (entryFrame m #[(.int p1), (.int p2), (.int p3), (.int p4)] maxLocals)) t := by
      intro t kt
      refine pre8 t ?_
      show Steps p.tables e below (T6.setTop (mkF m 28 #[.val (.int p1), .val (.int p2), .val (.int p3), .val (.int p4), .val (.int (p1 &&& (3 : Int32))), .val (.int (own_f1 p2)), .val (.int (own_f1 p3)), .val (.int (own_f1 p4)), .unset, .unset] [])) _
      refine XS.iconst X6.here hx rfl (hb hby at_28) ?_
      exact kt
    obtain ⟨T10, h10, k10, X10, e10, E10, A10, st10⟩ := newP X6 hx hZ (hw _ (List.mem_of_getElem? (i := 6) rfl)) e6 (g := (mkF m 29 #[.val (.int p1), .val (.int p2), .val (.int p3), .val (.int p4), .val (.int (p1 &&& (3 : Int32))), .val (.int (own_f1 p2)), .val (.int (own_f1 p3)), .val (.int (own_f1 p4)), .unset, .unset] [(.int (0 : Int32))])) rfl (hb hby at_29) rfl (by decide) (cap := 0) (by decide) (by decide) (by decide) (by decide)
    obtain ⟨b10, g10⟩ : ∃ z, z = h0.size := ⟨_, rfl⟩
    have g_b10 : n0 ≤ b10 := Nat.le_trans Z0 (Nat.le_of_eq g10.symm)
    have sz_b10 : h0.size ≤ b10 := Nat.le_trans (Keep.refl h0 []).1 (Nat.le_of_eq g10.symm)
    rw [← g10] at A10 st10
    have K10 : Keep h0 h10 [] := (Keep.refl h0 []).ext E10
    have Z10 : n0 ≤ h10.size := Nat.le_trans Z0 E10.1
    have V_b10 : Arv Z h10 b10 k10 .int (0 : Int32) [] (.int (0 : Int32)) := (Arv.new A10 (by decide)).pad (pad_rep [] (.int (0 : Int32)) 0)
    have pre10 : ∀ t, Steps p.tables e below (T10.setTop (mkF m 31 #[.val (.int p1), .val (.int p2), .val (.int p3), .val (.int p4), .val (.int (p1 &&& (3 : Int32))), .val (.int (own_f1 p2)), .val (.int (own_f1 p3)), .val (.int (own_f1 p4)), .unset, .unset] [(.ref b10)])) t → Steps p.tables e below (s₁.setTop (entryFrame m #[(.int p1), (.int p2), (.int p3), (.int p4)] maxLocals)) t := fun t kt => pre9 t (st10 _ kt)
    have pre11 : ∀ t, Steps p.tables e below (T10.setTop (mkF m 102 #[.val (.int p1), .val (.int p2), .val (.int p3), .val (.int p4), .val (.int (p1 &&& (3 : Int32))), .val (.int (own_f1 p2)), .val (.int (own_f1 p3)), .val (.int (own_f1 p4)), .val (.ref b10), .unset] [(.int (1 : Int32)), (.int (p1 &&& (3 : Int32)))])) t → Steps p.tables e below (s₁.setTop (entryFrame m #[(.int p1), (.int p2), (.int p3), (.int p4)] maxLocals)) t := by
      intro t kt
      refine pre10 t ?_
      show Steps p.tables e below (T10.setTop (mkF m 31 #[.val (.int p1), .val (.int p2), .val (.int p3), .val (.int p4), .val (.int (p1 &&& (3 : Int32))), .val (.int (own_f1 p2)), .val (.int (own_f1 p3)), .val (.int (own_f1 p4)), .unset, .unset] [(.ref b10)])) _
      refine XS.astore X10.here hx rfl (hb hby at_31) rfl rfl (l' := #[.val (.int p1), .val (.int p2), .val (.int p3), .val (.int p4), .val (.int (p1 &&& (3 : Int32))), .val (.int (own_f1 p2)), .val (.int (own_f1 p3)), .val (.int (own_f1 p4)), .val (.ref b10), .unset]) rfl ?_
      show Steps p.tables e below (T10.setTop (mkF m 33 #[.val (.int p1), .val (.int p2), .val (.int p3), .val (.int p4), .val (.int (p1 &&& (3 : Int32))), .val (.int (own_f1 p2)), .val (.int (own_f1 p3)), .val (.int (own_f1 p4)), .val (.ref b10), .unset] [])) _
      refine XS.goto X10.here hx rfl (pc0 := 33) (pc' := 99) rfl (hb hby at_33) (by decide) (by decide) ?_
      show Steps p.tables e below (T10.setTop (mkF m 99 #[.val (.int p1), .val (.int p2), .val (.int p3), .val (.int p4), .val (.int (p1 &&& (3 : Int32))), .val (.int (own_f1 p2)), .val (.int (own_f1 p3)), .val (.int (own_f1 p4)), .val (.ref b10), .unset] [])) _
      refine XS.iload X10.here hx rfl (hb hby at_99) rfl ?_
      show Steps p.tables e below (T10.setTop (mkF m 101 #[.val (.int p1), .val (.int p2), .val (.int p3), .val (.int p4), .val (.int (p1 &&& (3 : Int32))), .val (.int (own_f1 p2)), .val (.int (own_f1 p3)), .val (.int (own_f1 p4)), .val (.ref b10), .unset] [(.int (p1 &&& (3 : Int32)))])) _
      refine XS.iconst X10.here hx rfl (hb hby at_101) ?_
      exact kt
    obtain ⟨v12_0, hv12_0, pre12⟩ : ∃ (v12_0 : Int32), v12_0 = (if (p1 &&& (3 : Int32)) < (1 : Int32) then (if (p1 &&& (3 : Int32)) < (2 : Int32) then (if (p1 &&& (3 : Int32)) < (3 : Int32) then (1 : Int32) else (if (own_f1 p4) < (128 : Int32) then (1 : Int32) else (0 : Int32))) else (if (own_f1 p3) < (128 : Int32) then (if (p1 &&& (3 : Int32)) < (3 : Int32) then (1 : Int32) else (if (own_f1 p4) < (128 : Int32) then (1 : Int32) else (0 : Int32))) else (0 : Int32))) else (if (own_f1 p2) < (128 : Int32) then (if (p1 &&& (3 : Int32)) < (2 : Int32) then (if (p1 &&& (3 : Int32)) < (3 : Int32) then (1 : Int32) else (if (own_f1 p4) < (128 : Int32) then (1 : Int32) else (0 : Int32))) else (if (own_f1 p3) < (128 : Int32) then (if (p1 &&& (3 : Int32)) < (3 : Int32) then (1 : Int32) else (if (own_f1 p4) < (128 : Int32) then (1 : Int32) else (0 : Int32))) else (0 : Int32))) else (0 : Int32))) ∧ ∀ t, Steps p.tables e below (T10.setTop (mkF m 146 #[.val (.int p1), .val (.int p2), .val (.int p3), .val (.int p4), .val (.int (p1 &&& (3 : Int32))), .val (.int (own_f1 p2)), .val (.int (own_f1 p3)), .val (.int (own_f1 p4)), .val (.ref b10), .unset] [(.int v12_0)])) t → Steps p.tables e below (s₁.setTop (entryFrame m #[(.int p1), (.int p2), (.int p3), (.int p4)] maxLocals)) t := by
      refine ⟨_, rfl, ?_⟩
      intro t kt
      refine pre11 t ?_
      show Steps p.tables e below (T10.setTop (mkF m 102 #[.val (.int p1), .val (.int p2), .val (.int p3), .val (.int p4), .val (.int (p1 &&& (3 : Int32))), .val (.int (own_f1 p2)), .val (.int (own_f1 p3)), .val (.int (own_f1 p4)), .val (.ref b10), .unset] [(.int (1 : Int32)), (.int (p1 &&& (3 : Int32)))])) _
      by_cases hc102 : (p1 &&& (3 : Int32)) < (1 : Int32)
      · (try simp only [if_pos hc102] at kt)
        refine XS.icmpYes X10.here hx rfl (pc0 := 102) (pc' := 113) rfl (hb hby at_102) rfl (tlt hc102).1 (by decide) (by decide) ?_
        show Steps p.tables e below (T10.setTop (mkF m 113 #[.val (.int p1), .val (.int p2), .val (.int p3), .val (.int p4), .val (.int (p1 &&& (3 : Int32))), .val (.int (own_f1 p2)), .val (.int (own_f1 p3)), .val (.int (own_f1 p4)), .val (.ref b10), .unset] [])) _
        refine XS.iload X10.here hx rfl (hb hby at_113) rfl ?_
        show Steps p.tables e below (T10.setTop (mkF m 115 #[.val (.int p1), .val (.int p2), .val (.int p3), .val (.int p4), .val (.int (p1 &&& (3 : Int32))), .val (.int (own_f1 p2)), .val (.int (own_f1 p3)), .val (.int (own_f1 p4)), .val (.ref b10), .unset] [(.int (p1 &&& (3 : Int32)))])) _
        refine XS.iconst X10.here hx rfl (hb hby at_115) ?_
        show Steps p.tables e below (T10.setTop (mkF m 116 #[.val (.int p1), .val (.int p2), .val (.int p3), .val (.int p4), .val (.int (p1 &&& (3 : Int32))), .val (.int (own_f1 p2)), .val (.int (own_f1 p3)), .val (.int (own_f1 p4)), .val (.ref b10), .unset] [(.int (2 : Int32)), (.int (p1 &&& (3 : Int32)))])) _
        by_cases hc116 : (p1 &&& (3 : Int32)) < (2 : Int32)
        · (try simp only [if_pos hc116] at kt)
          refine XS.icmpYes X10.here hx rfl (pc0 := 116) (pc' := 127) rfl (hb hby at_116) rfl (tlt hc116).1 (by decide) (by decide) ?_
          show Steps p.tables e below (T10.setTop (mkF m 127 #[.val (.int p1), .val (.int p2), .val (.int p3), .val (.int p4), .val (.int (p1 &&& (3 : Int32))), .val (.int (own_f1 p2)), .val (.int (own_f1 p3)), .val (.int (own_f1 p4)), .val (.ref b10), .unset] [])) _
          refine XS.iload X10.here hx rfl (hb hby at_127) rfl ?_
          show Steps p.tables e below (T10.setTop (mkF m 129 #[.val (.int p1), .val (.int p2), .val (.int p3), .val (.int p4), .val (.int (p1 &&& (3 : Int32))), .val (.int (own_f1 p2)), .val (.int (own_f1 p3)), .val (.int (own_f1 p4)), .val (.ref b10), .unset] [(.int (p1 &&& (3 : Int32)))])) _
          refine XS.iconst X10.here hx rfl (hb hby at_129) ?_
          show Steps p.tables e below (T10.setTop (mkF m 130 #[.val (.int p1), .val (.int p2), .val (.int p3), .val (.int p4), .val (.int (p1 &&& (3 : Int32))), .val (.int (own_f1 p2)), .val (.int (own_f1 p3)), .val (.int (own_f1 p4)), .val (.ref b10), .unset] [(.int (3 : Int32)), (.int (p1 &&& (3 : Int32)))])) _
          by_cases hc130 : (p1 &&& (3 : Int32)) < (3 : Int32)
          · (try simp only [if_pos hc130] at kt)
            refine XS.icmpYes X10.here hx rfl (pc0 := 130) (pc' := 141) rfl (hb hby at_130) rfl (tlt hc130).1 (by decide) (by decide) ?_
            show Steps p.tables e below (T10.setTop (mkF m 141 #[.val (.int p1), .val (.int p2), .val (.int p3), .val (.int p4), .val (.int (p1 &&& (3 : Int32))), .val (.int (own_f1 p2)), .val (.int (own_f1 p3)), .val (.int (own_f1 p4)), .val (.ref b10), .unset] [])) _
            refine XS.iconst X10.here hx rfl (hb hby at_141) ?_
            show Steps p.tables e below (T10.setTop (mkF m 142 #[.val (.int p1), .val (.int p2), .val (.int p3), .val (.int p4), .val (.int (p1 &&& (3 : Int32))), .val (.int (own_f1 p2)), .val (.int (own_f1 p3)), .val (.int (own_f1 p4)), .val (.ref b10), .unset] [(.int (1 : Int32))])) _
            refine XS.goto X10.here hx rfl (pc0 := 142) (pc' := 146) rfl (hb hby at_142) (by decide) (by decide) ?_
            exact kt
          · (try simp only [if_neg hc130] at kt)
            refine XS.icmpNo X10.here hx rfl (hb hby at_130) rfl (flt hc130).1 ?_
            show Steps p.tables e below (T10.setTop (mkF m 133 #[.val (.int p1), .val (.int p2), .val (.int p3), .val (.int p4), .val (.int (p1 &&& (3 : Int32))), .val (.int (own_f1 p2)), .val (.int (own_f1 p3)), .val (.int (own_f1 p4)), .val (.ref b10), .unset] [])) _
            refine XS.iload X10.here hx rfl (hb hby at_133) rfl ?_
            show Steps p.tables e below (T10.setTop (mkF m 135 #[.val (.int p1), .val (.int p2), .val (.int p3), .val (.int p4), .val (.int (p1 &&& (3 : Int32))), .val (.int (own_f1 p2)), .val (.int (own_f1 p3)), .val (.int (own_f1 p4)), .val (.ref b10), .unset] [(.int (own_f1 p4))])) _
            refine XS.sipush X10.here hx rfl (hb hby at_135) ?_
            show Steps p.tables e below (T10.setTop (mkF m 138 #[.val (.int p1), .val (.int p2), .val (.int p3), .val (.int p4), .val (.int (p1 &&& (3 : Int32))), .val (.int (own_f1 p2)), .val (.int (own_f1 p3)), .val (.int (own_f1 p4)), .val (.ref b10), .unset] [(.int (128 : Int32)), (.int (own_f1 p4))])) _
            by_cases hc138 : (own_f1 p4) < (128 : Int32)
            · (try simp only [if_pos hc138] at kt)
              refine XS.icmpNo X10.here hx rfl (hb hby at_138) rfl (tlt hc138).2.1 ?_
              show Steps p.tables e below (T10.setTop (mkF m 141 #[.val (.int p1), .val (.int p2), .val (.int p3), .val (.int p4), .val (.int (p1 &&& (3 : Int32))), .val (.int (own_f1 p2)), .val (.int (own_f1 p3)), .val (.int (own_f1 p4)), .val (.ref b10), .unset] [])) _
              refine XS.iconst X10.here hx rfl (hb hby at_141) ?_
              show Steps p.tables e below (T10.setTop (mkF m 142 #[.val (.int p1), .val (.int p2), .val (.int p3), .val (.int p4), .val (.int (p1 &&& (3 : Int32))), .val (.int (own_f1 p2)), .val (.int (own_f1 p3)), .val (.int (own_f1 p4)), .val (.ref b10), .unset] [(.int (1 : Int32))])) _
              refine XS.goto X10.here hx rfl (pc0 := 142) (pc' := 146) rfl (hb hby at_142) (by decide) (by decide) ?_
              exact kt
            · (try simp only [if_neg hc138] at kt)
              refine XS.icmpYes X10.here hx rfl (pc0 := 138) (pc' := 145) rfl (hb hby at_138) rfl (flt hc138).2.1 (by decide) (by decide) ?_
              show Steps p.tables e below (T10.setTop (mkF m 145 #[.val (.int p1), .val (.int p2), .val (.int p3), .val (.int p4), .val (.int (p1 &&& (3 : Int32))), .val (.int (own_f1 p2)), .val (.int (own_f1 p3)), .val (.int (own_f1 p4)), .val (.ref b10), .unset] [])) _
              refine XS.iconst X10.here hx rfl (hb hby at_145) ?_
              exact kt
        · (try simp only [if_neg hc116] at kt)
          refine XS.icmpNo X10.here hx rfl (hb hby at_116) rfl (flt hc116).1 ?_
          show Steps p.tables e below (T10.setTop (mkF m 119 #[.val (.int p1), .val (.int p2), .val (.int p3), .val (.int p4), .val (.int (p1 &&& (3 : Int32))), .val (.int (own_f1 p2)), .val (.int (own_f1 p3)), .val (.int (own_f1 p4)), .val (.ref b10), .unset] [])) _
          refine XS.iload X10.here hx rfl (hb hby at_119) rfl ?_
          show Steps p.tables e below (T10.setTop (mkF m 121 #[.val (.int p1), .val (.int p2), .val (.int p3), .val (.int p4), .val (.int (p1 &&& (3 : Int32))), .val (.int (own_f1 p2)), .val (.int (own_f1 p3)), .val (.int (own_f1 p4)), .val (.ref b10), .unset] [(.int (own_f1 p3))])) _
          refine XS.sipush X10.here hx rfl (hb hby at_121) ?_
          show Steps p.tables e below (T10.setTop (mkF m 124 #[.val (.int p1), .val (.int p2), .val (.int p3), .val (.int p4), .val (.int (p1 &&& (3 : Int32))), .val (.int (own_f1 p2)), .val (.int (own_f1 p3)), .val (.int (own_f1 p4)), .val (.ref b10), .unset] [(.int (128 : Int32)), (.int (own_f1 p3))])) _
          by_cases hc124 : (own_f1 p3) < (128 : Int32)
          · (try simp only [if_pos hc124] at kt)
            refine XS.icmpNo X10.here hx rfl (hb hby at_124) rfl (tlt hc124).2.1 ?_
            show Steps p.tables e below (T10.setTop (mkF m 127 #[.val (.int p1), .val (.int p2), .val (.int p3), .val (.int p4), .val (.int (p1 &&& (3 : Int32))), .val (.int (own_f1 p2)), .val (.int (own_f1 p3)), .val (.int (own_f1 p4)), .val (.ref b10), .unset] [])) _
            refine XS.iload X10.here hx rfl (hb hby at_127) rfl ?_
            show Steps p.tables e below (T10.setTop (mkF m 129 #[.val (.int p1), .val (.int p2), .val (.int p3), .val (.int p4), .val (.int (p1 &&& (3 : Int32))), .val (.int (own_f1 p2)), .val (.int (own_f1 p3)), .val (.int (own_f1 p4)), .val (.ref b10), .unset] [(.int (p1 &&& (3 : Int32)))])) _
            refine XS.iconst X10.here hx rfl (hb hby at_129) ?_
            show Steps p.tables e below (T10.setTop (mkF m 130 #[.val (.int p1), .val (.int p2), .val (.int p3), .val (.int p4), .val (.int (p1 &&& (3 : Int32))), .val (.int (own_f1 p2)), .val (.int (own_f1 p3)), .val (.int (own_f1 p4)), .val (.ref b10), .unset] [(.int (3 : Int32)), (.int (p1 &&& (3 : Int32)))])) _
            by_cases hc130 : (p1 &&& (3 : Int32)) < (3 : Int32)
            · (try simp only [if_pos hc130] at kt)
              refine XS.icmpYes X10.here hx rfl (pc0 := 130) (pc' := 141) rfl (hb hby at_130) rfl (tlt hc130).1 (by decide) (by decide) ?_
              show Steps p.tables e below (T10.setTop (mkF m 141 #[.val (.int p1), .val (.int p2), .val (.int p3), .val (.int p4), .val (.int (p1 &&& (3 : Int32))), .val (.int (own_f1 p2)), .val (.int (own_f1 p3)), .val (.int (own_f1 p4)), .val (.ref b10), .unset] [])) _
              refine XS.iconst X10.here hx rfl (hb hby at_141) ?_
              show Steps p.tables e below (T10.setTop (mkF m 142 #[.val (.int p1), .val (.int p2), .val (.int p3), .val (.int p4), .val (.int (p1 &&& (3 : Int32))), .val (.int (own_f1 p2)), .val (.int (own_f1 p3)), .val (.int (own_f1 p4)), .val (.ref b10), .unset] [(.int (1 : Int32))])) _
              refine XS.goto X10.here hx rfl (pc0 := 142) (pc' := 146) rfl (hb hby at_142) (by decide) (by decide) ?_
              exact kt
            · (try simp only [if_neg hc130] at kt)
              refine XS.icmpNo X10.here hx rfl (hb hby at_130) rfl (flt hc130).1 ?_
              show Steps p.tables e below (T10.setTop (mkF m 133 #[.val (.int p1), .val (.int p2), .val (.int p3), .val (.int p4), .val (.int (p1 &&& (3 : Int32))), .val (.int (own_f1 p2)), .val (.int (own_f1 p3)), .val (.int (own_f1 p4)), .val (.ref b10), .unset] [])) _
              refine XS.iload X10.here hx rfl (hb hby at_133) rfl ?_
              show Steps p.tables e below (T10.setTop (mkF m 135 #[.val (.int p1), .val (.int p2), .val (.int p3), .val (.int p4), .val (.int (p1 &&& (3 : Int32))), .val (.int (own_f1 p2)), .val (.int (own_f1 p3)), .val (.int (own_f1 p4)), .val (.ref b10), .unset] [(.int (own_f1 p4))])) _
              refine XS.sipush X10.here hx rfl (hb hby at_135) ?_
              show Steps p.tables e below (T10.setTop (mkF m 138 #[.val (.int p1), .val (.int p2), .val (.int p3), .val (.int p4), .val (.int (p1 &&& (3 : Int32))), .val (.int (own_f1 p2)), .val (.int (own_f1 p3)), .val (.int (own_f1 p4)), .val (.ref b10), .unset] [(.int (128 : Int32)), (.int (own_f1 p4))])) _
              by_cases hc138 : (own_f1 p4) < (128 : Int32)
              · (try simp only [if_pos hc138] at kt)
                refine XS.icmpNo X10.here hx rfl (hb hby at_138) rfl (tlt hc138).2.1 ?_
                show Steps p.tables e below (T10.setTop (mkF m 141 #[.val (.int p1), .val (.int p2), .val (.int p3), .val (.int p4), .val (.int (p1 &&& (3 : Int32))), .val (.int (own_f1 p2)), .val (.int (own_f1 p3)), .val (.int (own_f1 p4)), .val (.ref b10), .unset] [])) _
                refine XS.iconst X10.here hx rfl (hb hby at_141) ?_
                show Steps p.tables e below (T10.setTop (mkF m 142 #[.val (.int p1), .val (.int p2), .val (.int p3), .val (.int p4), .val (.int (p1 &&& (3 : Int32))), .val (.int (own_f1 p2)), .val (.int (own_f1 p3)), .val (.int (own_f1 p4)), .val (.ref b10), .unset] [(.int (1 : Int32))])) _
                refine XS.goto X10.here hx rfl (pc0 := 142) (pc' := 146) rfl (hb hby at_142) (by decide) (by decide) ?_
                exact kt
              · (try simp only [if_neg hc138] at kt)
                refine XS.icmpYes X10.here hx rfl (pc0 := 138) (pc' := 145) rfl (hb hby at_138) rfl (flt hc138).2.1 (by decide) (by decide) ?_
                show Steps p.tables e below (T10.setTop (mkF m 145 #[.val (.int p1), .val (.int p2), .val (.int p3), .val (.int p4), .val (.int (p1 &&& (3 : Int32))), .val (.int (own_f1 p2)), .val (.int (own_f1 p3)), .val (.int (own_f1 p4)), .val (.ref b10), .unset] [])) _
                refine XS.iconst X10.here hx rfl (hb hby at_145) ?_
                exact kt
          · (try simp only [if_neg hc124] at kt)
            refine XS.icmpYes X10.here hx rfl (pc0 := 124) (pc' := 145) rfl (hb hby at_124) rfl (flt hc124).2.1 (by decide) (by decide) ?_
            show Steps p.tables e below (T10.setTop (mkF m 145 #[.val (.int p1), .val (.int p2), .val (.int p3), .val (.int p4), .val (.int (p1 &&& (3 : Int32))), .val (.int (own_f1 p2)), .val (.int (own_f1 p3)), .val (.int (own_f1 p4)), .val (.ref b10), .unset] [])) _
            refine XS.iconst X10.here hx rfl (hb hby at_145) ?_
            exact kt
      · (try simp only [if_neg hc102] at kt)
        refine XS.icmpNo X10.here hx rfl (hb hby at_102) rfl (flt hc102).1 ?_
        show Steps p.tables e below (T10.setTop (mkF m 105 #[.val (.int p1), .val (.int p2), .val (.int p3), .val (.int p4), .val (.int (p1 &&& (3 : Int32))), .val (.int (own_f1 p2)), .val (.int (own_f1 p3)), .val (.int (own_f1 p4)), .val (.ref b10), .unset] [])) _
        refine XS.iload X10.here hx rfl (hb hby at_105) rfl ?_
        show Steps p.tables e below (T10.setTop (mkF m 107 #[.val (.int p1), .val (.int p2), .val (.int p3), .val (.int p4), .val (.int (p1 &&& (3 : Int32))), .val (.int (own_f1 p2)), .val (.int (own_f1 p3)), .val (.int (own_f1 p4)), .val (.ref b10), .unset] [(.int (own_f1 p2))])) _
        refine XS.sipush X10.here hx rfl (hb hby at_107) ?_
        show Steps p.tables e below (T10.setTop (mkF m 110 #[.val (.int p1), .val (.int p2), .val (.int p3), .val (.int p4), .val (.int (p1 &&& (3 : Int32))), .val (.int (own_f1 p2)), .val (.int (own_f1 p3)), .val (.int (own_f1 p4)), .val (.ref b10), .unset] [(.int (128 : Int32)), (.int (own_f1 p2))])) _
        by_cases hc110 : (own_f1 p2) < (128 : Int32)
        · (try simp only [if_pos hc110] at kt)
          refine XS.icmpNo X10.here hx rfl (hb hby at_110) rfl (tlt hc110).2.1 ?_
          show Steps p.tables e below (T10.setTop (mkF m 113 #[.val (.int p1), .val (.int p2), .val (.int p3), .val (.int p4), .val (.int (p1 &&& (3 : Int32))), .val (.int (own_f1 p2)), .val (.int (own_f1 p3)), .val (.int (own_f1 p4)), .val (.ref b10), .unset] [])) _
          refine XS.iload X10.here hx rfl (hb hby at_113) rfl ?_
          show Steps p.tables e below (T10.setTop (mkF m 115 #[.val (.int p1), .val (.int p2), .val (.int p3), .val (.int p4), .val (.int (p1 &&& (3 : Int32))), .val (.int (own_f1 p2)), .val (.int (own_f1 p3)), .val (.int (own_f1 p4)), .val (.ref b10), .unset] [(.int (p1 &&& (3 : Int32)))])) _
          refine XS.iconst X10.here hx rfl (hb hby at_115) ?_
          show Steps p.tables e below (T10.setTop (mkF m 116 #[.val (.int p1), .val (.int p2), .val (.int p3), .val (.int p4), .val (.int (p1 &&& (3 : Int32))), .val (.int (own_f1 p2)), .val (.int (own_f1 p3)), .val (.int (own_f1 p4)), .val (.ref b10), .unset] [(.int (2 : Int32)), (.int (p1 &&& (3 : Int32)))])) _
          by_cases hc116 : (p1 &&& (3 : Int32)) < (2 : Int32)
          · (try simp only [if_pos hc116] at kt)
            refine XS.icmpYes X10.here hx rfl (pc0 := 116) (pc' := 127) rfl (hb hby at_116) rfl (tlt hc116).1 (by decide) (by decide) ?_
            show Steps p.tables e below (T10.setTop (mkF m 127 #[.val (.int p1), .val (.int p2), .val (.int p3), .val (.int p4), .val (.int (p1 &&& (3 : Int32))), .val (.int (own_f1 p2)), .val (.int (own_f1 p3)), .val (.int (own_f1 p4)), .val (.ref b10), .unset] [])) _
            refine XS.iload X10.here hx rfl (hb hby at_127) rfl ?_
            show Steps p.tables e below (T10.setTop (mkF m 129 #[.val (.int p1), .val (.int p2), .val (.int p3), .val (.int p4), .val (.int (p1 &&& (3 : Int32))), .val (.int (own_f1 p2)), .val (.int (own_f1 p3)), .val (.int (own_f1 p4)), .val (.ref b10), .unset] [(.int (p1 &&& (3 : Int32)))])) _
            refine XS.iconst X10.here hx rfl (hb hby at_129) ?_
            show Steps p.tables e below (T10.setTop (mkF m 130 #[.val (.int p1), .val (.int p2), .val (.int p3), .val (.int p4), .val (.int (p1 &&& (3 : Int32))), .val (.int (own_f1 p2)), .val (.int (own_f1 p3)), .val (.int (own_f1 p4)), .val (.ref b10), .unset] [(.int (3 : Int32)), (.int (p1 &&& (3 : Int32)))])) _
            by_cases hc130 : (p1 &&& (3 : Int32)) < (3 : Int32)
            · (try simp only [if_pos hc130] at kt)
              refine XS.icmpYes X10.here hx rfl (pc0 := 130) (pc' := 141) rfl (hb hby at_130) rfl (tlt hc130).1 (by decide) (by decide) ?_
              show Steps p.tables e below (T10.setTop (mkF m 141 #[.val (.int p1), .val (.int p2), .val (.int p3), .val (.int p4), .val (.int (p1 &&& (3 : Int32))), .val (.int (own_f1 p2)), .val (.int (own_f1 p3)), .val (.int (own_f1 p4)), .val (.ref b10), .unset] [])) _
              refine XS.iconst X10.here hx rfl (hb hby at_141) ?_
              show Steps p.tables e below (T10.setTop (mkF m 142 #[.val (.int p1), .val (.int p2), .val (.int p3), .val (.int p4), .val (.int (p1 &&& (3 : Int32))), .val (.int (own_f1 p2)), .val (.int (own_f1 p3)), .val (.int (own_f1 p4)), .val (.ref b10), .unset] [(.int (1 : Int32))])) _
              refine XS.goto X10.here hx rfl (pc0 := 142) (pc' := 146) rfl (hb hby at_142) (by decide) (by decide) ?_
              exact kt
            · (try simp only [if_neg hc130] at kt)
              refine XS.icmpNo X10.here hx rfl (hb hby at_130) rfl (flt hc130).1 ?_
              show Steps p.tables e below (T10.setTop (mkF m 133 #[.val (.int p1), .val (.int p2), .val (.int p3), .val (.int p4), .val (.int (p1 &&& (3 : Int32))), .val (.int (own_f1 p2)), .val (.int (own_f1 p3)), .val (.int (own_f1 p4)), .val (.ref b10), .unset] [])) _
              refine XS.iload X10.here hx rfl (hb hby at_133) rfl ?_
              show Steps p.tables e below (T10.setTop (mkF m 135 #[.val (.int p1), .val (.int p2), .val (.int p3), .val (.int p4), .val (.int (p1 &&& (3 : Int32))), .val (.int (own_f1 p2)), .val (.int (own_f1 p3)), .val (.int (own_f1 p4)), .val (.ref b10), .unset] [(.int (own_f1 p4))])) _
              refine XS.sipush X10.here hx rfl (hb hby at_135) ?_
              show Steps p.tables e below (T10.setTop (mkF m 138 #[.val (.int p1), .val (.int p2), .val (.int p3), .val (.int p4), .val (.int (p1 &&& (3 : Int32))), .val (.int (own_f1 p2)), .val (.int (own_f1 p3)), .val (.int (own_f1 p4)), .val (.ref b10), .unset] [(.int (128 : Int32)), (.int (own_f1 p4))])) _
              by_cases hc138 : (own_f1 p4) < (128 : Int32)
              · (try simp only [if_pos hc138] at kt)
                refine XS.icmpNo X10.here hx rfl (hb hby at_138) rfl (tlt hc138).2.1 ?_
                show Steps p.tables e below (T10.setTop (mkF m 141 #[.val (.int p1), .val (.int p2), .val (.int p3), .val (.int p4), .val (.int (p1 &&& (3 : Int32))), .val (.int (own_f1 p2)), .val (.int (own_f1 p3)), .val (.int (own_f1 p4)), .val (.ref b10), .unset] [])) _
                refine XS.iconst X10.here hx rfl (hb hby at_141) ?_
                show Steps p.tables e below (T10.setTop (mkF m 142 #[.val (.int p1), .val (.int p2), .val (.int p3), .val (.int p4), .val (.int (p1 &&& (3 : Int32))), .val (.int (own_f1 p2)), .val (.int (own_f1 p3)), .val (.int (own_f1 p4)), .val (.ref b10), .unset] [(.int (1 : Int32))])) _
                refine XS.goto X10.here hx rfl (pc0 := 142) (pc' := 146) rfl (hb hby at_142) (by decide) (by decide) ?_
                exact kt
              · (try simp only [if_neg hc138] at kt)
                refine XS.icmpYes X10.here hx rfl (pc0 := 138) (pc' := 145) rfl (hb hby at_138) rfl (flt hc138).2.1 (by decide) (by decide) ?_
                show Steps p.tables e below (T10.setTop (mkF m 145 #[.val (.int p1), .val (.int p2), .val (.int p3), .val (.int p4), .val (.int (p1 &&& (3 : Int32))), .val (.int (own_f1 p2)), .val (.int (own_f1 p3)), .val (.int (own_f1 p4)), .val (.ref b10), .unset] [])) _
                refine XS.iconst X10.here hx rfl (hb hby at_145) ?_
                exact kt
          · (try simp only [if_neg hc116] at kt)
            refine XS.icmpNo X10.here hx rfl (hb hby at_116) rfl (flt hc116).1 ?_
            show Steps p.tables e below (T10.setTop (mkF m 119 #[.val (.int p1), .val (.int p2), .val (.int p3), .val (.int p4), .val (.int (p1 &&& (3 : Int32))), .val (.int (own_f1 p2)), .val (.int (own_f1 p3)), .val (.int (own_f1 p4)), .val (.ref b10), .unset] [])) _
            refine XS.iload X10.here hx rfl (hb hby at_119) rfl ?_
            show Steps p.tables e below (T10.setTop (mkF m 121 #[.val (.int p1), .val (.int p2), .val (.int p3), .val (.int p4), .val (.int (p1 &&& (3 : Int32))), .val (.int (own_f1 p2)), .val (.int (own_f1 p3)), .val (.int (own_f1 p4)), .val (.ref b10), .unset] [(.int (own_f1 p3))])) _
            refine XS.sipush X10.here hx rfl (hb hby at_121) ?_
            show Steps p.tables e below (T10.setTop (mkF m 124 #[.val (.int p1), .val (.int p2), .val (.int p3), .val (.int p4), .val (.int (p1 &&& (3 : Int32))), .val (.int (own_f1 p2)), .val (.int (own_f1 p3)), .val (.int (own_f1 p4)), .val (.ref b10), .unset] [(.int (128 : Int32)), (.int (own_f1 p3))])) _
            by_cases hc124 : (own_f1 p3) < (128 : Int32)
            · (try simp only [if_pos hc124] at kt)
              refine XS.icmpNo X10.here hx rfl (hb hby at_124) rfl (tlt hc124).2.1 ?_
              show Steps p.tables e below (T10.setTop (mkF m 127 #[.val (.int p1), .val (.int p2), .val (.int p3), .val (.int p4), .val (.int (p1 &&& (3 : Int32))), .val (.int (own_f1 p2)), .val (.int (own_f1 p3)), .val (.int (own_f1 p4)), .val (.ref b10), .unset] [])) _
              refine XS.iload X10.here hx rfl (hb hby at_127) rfl ?_
              show Steps p.tables e below (T10.setTop (mkF m 129 #[.val (.int p1), .val (.int p2), .val (.int p3), .val (.int p4), .val (.int (p1 &&& (3 : Int32))), .val (.int (own_f1 p2)), .val (.int (own_f1 p3)), .val (.int (own_f1 p4)), .val (.ref b10), .unset] [(.int (p1 &&& (3 : Int32)))])) _
              refine XS.iconst X10.here hx rfl (hb hby at_129) ?_
              show Steps p.tables e below (T10.setTop (mkF m 130 #[.val (.int p1), .val (.int p2), .val (.int p3), .val (.int p4), .val (.int (p1 &&& (3 : Int32))), .val (.int (own_f1 p2)), .val (.int (own_f1 p3)), .val (.int (own_f1 p4)), .val (.ref b10), .unset] [(.int (3 : Int32)), (.int (p1 &&& (3 : Int32)))])) _
              by_cases hc130 : (p1 &&& (3 : Int32)) < (3 : Int32)
              · (try simp only [if_pos hc130] at kt)
                refine XS.icmpYes X10.here hx rfl (pc0 := 130) (pc' := 141) rfl (hb hby at_130) rfl (tlt hc130).1 (by decide) (by decide) ?_
                show Steps p.tables e below (T10.setTop (mkF m 141 #[.val (.int p1), .val (.int p2), .val (.int p3), .val (.int p4), .val (.int (p1 &&& (3 : Int32))), .val (.int (own_f1 p2)), .val (.int (own_f1 p3)), .val (.int (own_f1 p4)), .val (.ref b10), .unset] [])) _
                refine XS.iconst X10.here hx rfl (hb hby at_141) ?_
                show Steps p.tables e below (T10.setTop (mkF m 142 #[.val (.int p1), .val (.int p2), .val (.int p3), .val (.int p4), .val (.int (p1 &&& (3 : Int32))), .val (.int (own_f1 p2)), .val (.int (own_f1 p3)), .val (.int (own_f1 p4)), .val (.ref b10), .unset] [(.int (1 : Int32))])) _
                refine XS.goto X10.here hx rfl (pc0 := 142) (pc' := 146) rfl (hb hby at_142) (by decide) (by decide) ?_
                exact kt
              · (try simp only [if_neg hc130] at kt)
                refine XS.icmpNo X10.here hx rfl (hb hby at_130) rfl (flt hc130).1 ?_
                show Steps p.tables e below (T10.setTop (mkF m 133 #[.val (.int p1), .val (.int p2), .val (.int p3), .val (.int p4), .val (.int (p1 &&& (3 : Int32))), .val (.int (own_f1 p2)), .val (.int (own_f1 p3)), .val (.int (own_f1 p4)), .val (.ref b10), .unset] [])) _
                refine XS.iload X10.here hx rfl (hb hby at_133) rfl ?_
                show Steps p.tables e below (T10.setTop (mkF m 135 #[.val (.int p1), .val (.int p2), .val (.int p3), .val (.int p4), .val (.int (p1 &&& (3 : Int32))), .val (.int (own_f1 p2)), .val (.int (own_f1 p3)), .val (.int (own_f1 p4)), .val (.ref b10), .unset] [(.int (own_f1 p4))])) _
                refine XS.sipush X10.here hx rfl (hb hby at_135) ?_
                show Steps p.tables e below (T10.setTop (mkF m 138 #[.val (.int p1), .val (.int p2), .val (.int p3), .val (.int p4), .val (.int (p1 &&& (3 : Int32))), .val (.int (own_f1 p2)), .val (.int (own_f1 p3)), .val (.int (own_f1 p4)), .val (.ref b10), .unset] [(.int (128 : Int32)), (.int (own_f1 p4))])) _
                by_cases hc138 : (own_f1 p4) < (128 : Int32)
                · (try simp only [if_pos hc138] at kt)
                  refine XS.icmpNo X10.here hx rfl (hb hby at_138) rfl (tlt hc138).2.1 ?_
                  show Steps p.tables e below (T10.setTop (mkF m 141 #[.val (.int p1), .val (.int p2), .val (.int p3), .val (.int p4), .val (.int (p1 &&& (3 : Int32))), .val (.int (own_f1 p2)), .val (.int (own_f1 p3)), .val (.int (own_f1 p4)), .val (.ref b10), .unset] [])) _
                  refine XS.iconst X10.here hx rfl (hb hby at_141) ?_
                  show Steps p.tables e below (T10.setTop (mkF m 142 #[.val (.int p1), .val (.int p2), .val (.int p3), .val (.int p4), .val (.int (p1 &&& (3 : Int32))), .val (.int (own_f1 p2)), .val (.int (own_f1 p3)), .val (.int (own_f1 p4)), .val (.ref b10), .unset] [(.int (1 : Int32))])) _
                  refine XS.goto X10.here hx rfl (pc0 := 142) (pc' := 146) rfl (hb hby at_142) (by decide) (by decide) ?_
                  exact kt
                · (try simp only [if_neg hc138] at kt)
                  refine XS.icmpYes X10.here hx rfl (pc0 := 138) (pc' := 145) rfl (hb hby at_138) rfl (flt hc138).2.1 (by decide) (by decide) ?_
                  show Steps p.tables e below (T10.setTop (mkF m 145 #[.val (.int p1), .val (.int p2), .val (.int p3), .val (.int p4), .val (.int (p1 &&& (3 : Int32))), .val (.int (own_f1 p2)), .val (.int (own_f1 p3)), .val (.int (own_f1 p4)), .val (.ref b10), .unset] [])) _
                  refine XS.iconst X10.here hx rfl (hb hby at_145) ?_
                  exact kt
            · (try simp only [if_neg hc124] at kt)
              refine XS.icmpYes X10.here hx rfl (pc0 := 124) (pc' := 145) rfl (hb hby at_124) rfl (flt hc124).2.1 (by decide) (by decide) ?_
              show Steps p.tables e below (T10.setTop (mkF m 145 #[.val (.int p1), .val (.int p2), .val (.int p3), .val (.int p4), .val (.int (p1 &&& (3 : Int32))), .val (.int (own_f1 p2)), .val (.int (own_f1 p3)), .val (.int (own_f1 p4)), .val (.ref b10), .unset] [])) _
              refine XS.iconst X10.here hx rfl (hb hby at_145) ?_
              exact kt
        · (try simp only [if_neg hc110] at kt)
          refine XS.icmpYes X10.here hx rfl (pc0 := 110) (pc' := 145) rfl (hb hby at_110) rfl (flt hc110).2.1 (by decide) (by decide) ?_
          show Steps p.tables e below (T10.setTop (mkF m 145 #[.val (.int p1), .val (.int p2), .val (.int p3), .val (.int p4), .val (.int (p1 &&& (3 : Int32))), .val (.int (own_f1 p2)), .val (.int (own_f1 p3)), .val (.int (own_f1 p4)), .val (.ref b10), .unset] [])) _
          refine XS.iconst X10.here hx rfl (hb hby at_145) ?_
          exact kt
    have pre13 : ∀ t, Steps p.tables e below (T10.setTop (mkF m 150 #[.val (.int p1), .val (.int p2), .val (.int p3), .val (.int p4), .val (.int (p1 &&& (3 : Int32))), .val (.int (own_f1 p2)), .val (.int (own_f1 p3)), .val (.int (own_f1 p4)), .val (.ref b10), .val (.int v12_0)] [(.ref b10)])) t → Steps p.tables e below (s₁.setTop (entryFrame m #[(.int p1), (.int p2), (.int p3), (.int p4)] maxLocals)) t := by
      intro t kt
      refine pre12 t ?_
      show Steps p.tables e below (T10.setTop (mkF m 146 #[.val (.int p1), .val (.int p2), .val (.int p3), .val (.int p4), .val (.int (p1 &&& (3 : Int32))), .val (.int (own_f1 p2)), .val (.int (own_f1 p3)), .val (.int (own_f1 p4)), .val (.ref b10), .unset] [(.int v12_0)])) _
      refine XS.istore X10.here hx rfl (hb hby at_146) rfl (l' := #[.val (.int p1), .val (.int p2), .val (.int p3), .val (.int p4), .val (.int (p1 &&& (3 : Int32))), .val (.int (own_f1 p2)), .val (.int (own_f1 p3)), .val (.int (own_f1 p4)), .val (.ref b10), .val (.int v12_0)]) rfl ?_
      show Steps p.tables e below (T10.setTop (mkF m 148 #[.val (.int p1), .val (.int p2), .val (.int p3), .val (.int p4), .val (.int (p1 &&& (3 : Int32))), .val (.int (own_f1 p2)), .val (.int (own_f1 p3)), .val (.int (own_f1 p4)), .val (.ref b10), .val (.int v12_0)] [])) _
      refine XS.aload X10.here hx rfl (hb hby at_148) rfl rfl ?_
      exact kt
    obtain ⟨_, _, ⟨T14, L14, k14, n14⟩, -, X14, ⟨Lc14, hQ14, l14, y14, z14⟩, st14⟩ := Jvm.LawKit.callS X10 hx (y := (⟨own_k9, "isAscii", "([I)Z"⟩ : MethodName)) hown (mvT hZ (hw _ (List.mem_of_getElem? (i := 7) rfl))) (mvT hZ (hw _ (List.mem_of_getElem? (i := 8) rfl))) (mvT hZ (hw _ (List.mem_of_getElem? (i := 9) rfl))) (mvT hZ (hw _ (List.mem_of_getElem? (i := 10) rfl))) (by decide) (backOf (W := 0) (rm2_0 l Z a0 hw [] b10 k10 h10 n0 Z10 V_b10) hZ (hw _ (List.mem_of_getElem? (i := 10) rfl)) (hw _ (List.mem_of_getElem? (i := 9) rfl)) (by decide) (by decide)) (g := (mkF m 150 #[.val (.int p1), .val (.int p2), .val (.int p3), .val (.int p4), .val (.int (p1 &&& (3 : Int32))), .val (.int (own_f1 p2)), .val (.int (own_f1 p3)), .val (.int (own_f1 p4)), .val (.ref b10), .val (.int v12_0)] [(.ref b10)])) rfl (by rw [hml]; rfl) (argsL := [(.ref b10)]) (rest := []) (lenOf pd_1 rfl) rfl (by show 2 * 0 + _ ≤ _; exact Nat.le_of_eq rfl) (hb hby at_150) (fun _ _ => ⟨rfl, e10, (by decide : 1 + 0 ≤ _), (by decide : 0 + 0 ≤ _)⟩)
    dsimp only [Pt.U, Pt.locs, Pt.cells, Pt.slots] at X14 l14 y14 z14 st14 hQ14
    subst l14 y14 z14
    obtain ⟨rfl, N14q, e14⟩ := hQ14
    have N14 := Fr.app N6 N14q
    have pre14 : ∀ t, Steps p.tables e below (T14.setTop (mkF m 153 #[.val (.int p1), .val (.int p2), .val (.int p3), .val (.int p4), .val (.int (p1 &&& (3 : Int32))), .val (.int (own_f1 p2)), .val (.int (own_f1 p3)), .val (.int (own_f1 p4)), .val (.ref b10), .val (.int v12_0)] [(.int (1 : Int32))])) t → Steps p.tables e below (s₁.setTop (entryFrame m #[(.int p1), (.int p2), (.int p3), (.int p4)] maxLocals)) t := fun t kt => pre13 t (st14 _ kt)
    have pre15 : ∀ t, Steps p.tables e below (T14.setTop (mkF m 155 #[.val (.int p1), .val (.int p2), .val (.int p3), .val (.int p4), .val (.int (p1 &&& (3 : Int32))), .val (.int (own_f1 p2)), .val (.int (own_f1 p3)), .val (.int (own_f1 p4)), .val (.ref b10), .val (.int v12_0)] [(.int v12_0), (.int (1 : Int32))])) t → Steps p.tables e below (s₁.setTop (entryFrame m #[(.int p1), (.int p2), (.int p3), (.int p4)] maxLocals)) t := by
      intro t kt
      refine pre14 t ?_
      show Steps p.tables e below (T14.setTop (mkF m 153 #[.val (.int p1), .val (.int p2), .val (.int p3), .val (.int p4), .val (.int (p1 &&& (3 : Int32))), .val (.int (own_f1 p2)), .val (.int (own_f1 p3)), .val (.int (own_f1 p4)), .val (.ref b10), .val (.int v12_0)] [(.int (1 : Int32))])) _
      refine XS.iload X14.here hx rfl (hb hby at_153) rfl ?_
      exact kt
    obtain ⟨v16_0, hv16_0, pre16⟩ : ∃ (v16_0 : Int32), v16_0 = (if (1 : Int32) = v12_0 then (1 : Int32) else (0 : Int32)) ∧ ∀ t, Steps p.tables e below (T14.setTop (mkF m 163 #[.val (.int p1), .val (.int p2), .val (.int p3), .val (.int p4), .val (.int (p1 &&& (3 : Int32))), .val (.int (own_f1 p2)), .val (.int (own_f1 p3)), .val (.int (own_f1 p4)), .val (.ref b10), .val (.int v12_0)] [(.int v16_0)])) t → Steps p.tables e below (s₁.setTop (entryFrame m #[(.int p1), (.int p2), (.int p3), (.int p4)] maxLocals)) t := by
      refine ⟨_, rfl, ?_⟩
      intro t kt
      refine pre15 t ?_
      show Steps p.tables e below (T14.setTop (mkF m 155 #[.val (.int p1), .val (.int p2), .val (.int p3), .val (.int p4), .val (.int (p1 &&& (3 : Int32))), .val (.int (own_f1 p2)), .val (.int (own_f1 p3)), .val (.int (own_f1 p4)), .val (.ref b10), .val (.int v12_0)] [(.int v12_0), (.int (1 : Int32))])) _
      by_cases hc155 : (1 : Int32) = v12_0
      · (try simp only [if_pos hc155] at kt)
        refine XS.icmpNo X14.here hx rfl (hb hby at_155) rfl (teq hc155).2 ?_
        show Steps p.tables e below (T14.setTop (mkF m 158 #[.val (.int p1), .val (.int p2), .val (.int p3), .val (.int p4), .val (.int (p1 &&& (3 : Int32))), .val (.int (own_f1 p2)), .val (.int (own_f1 p3)), .val (.int (own_f1 p4)), .val (.ref b10), .val (.int v12_0)] [])) _
        refine XS.iconst X14.here hx rfl (hb hby at_158) ?_
        show Steps p.tables e below (T14.setTop (mkF m 159 #[.val (.int p1), .val (.int p2), .val (.int p3), .val (.int p4), .val (.int (p1 &&& (3 : Int32))), .val (.int (own_f1 p2)), .val (.int (own_f1 p3)), .val (.int (own_f1 p4)), .val (.ref b10), .val (.int v12_0)] [(.int (1 : Int32))])) _
        refine XS.goto X14.here hx rfl (pc0 := 159) (pc' := 163) rfl (hb hby at_159) (by decide) (by decide) ?_
        exact kt
      · (try simp only [if_neg hc155] at kt)
        refine XS.icmpYes X14.here hx rfl (pc0 := 155) (pc' := 162) rfl (hb hby at_155) rfl (feq hc155).2 (by decide) (by decide) ?_
        show Steps p.tables e below (T14.setTop (mkF m 162 #[.val (.int p1), .val (.int p2), .val (.int p3), .val (.int p4), .val (.int (p1 &&& (3 : Int32))), .val (.int (own_f1 p2)), .val (.int (own_f1 p3)), .val (.int (own_f1 p4)), .val (.ref b10), .val (.int v12_0)] [])) _
        refine XS.iconst X14.here hx rfl (hb hby at_162) ?_
        exact kt
    have hfin : v16_0 = 1 := by
      have hn : (p1 &&& (3 : Int32)) = 0 := hc25
      simp only [hv16_0, hv12_0, hn]
      by_cases ha : (own_f1 p2) < (128 : Int32) <;> by_cases hb : (own_f1 p3) < (128 : Int32) <;> by_cases hc : (own_f1 p4) < (128 : Int32) <;> simp [ha, hb, hc]
    obtain ⟨fs, hr, hrun, hended, hW, hsame⟩ := X14.leave (v := some (.int (1 : Int32))) (fun h => by rw [Bd.returns] at h; cases h)
    refine ⟨_, _, pre16 _ ?_, hrun, hended, _, _, rfl, ?_, ⟨_, rfl⟩, hW, hsame.mono (by decide) (by decide)⟩
    · show Steps p.tables e below (T14.setTop (mkF m 163 #[.val (.int p1), .val (.int p2), .val (.int p3), .val (.int p4), .val (.int (p1 &&& (3 : Int32))), .val (.int (own_f1 p2)), .val (.int (own_f1 p3)), .val (.int (own_f1 p4)), .val (.ref b10), .val (.int v12_0)] [(.int v16_0)])) _
      rw [hfin]
      exact retN X14 hx (t := .boolean) Bd.returns (by simp) (hb hby at_163) hr
    · show Q0 n0 _ T14.heap _
      rw [e14]
      exact ⟨rfl, N14⟩
  · have pre17 : ∀ t, Steps p.tables e below (T6.setTop (mkF m 36 #[.val (.int p1), .val (.int p2), .val (.int p3), .val (.int p4), .val (.int (p1 &&& (3 : Int32))), .val (.int (own_f1 p2)), .val (.int (own_f1 p3)), .val (.int (own_f1 p4)), .unset, .unset] [])) t → Steps p.tables e below (s₁.setTop (entryFrame m #[(.int p1), (.int p2), (.int p3), (.int p4)] maxLocals)) t := by
      intro t kt
      refine pre7 t ?_
      show Steps p.tables e below (T6.setTop (mkF m 25 #[.val (.int p1), .val (.int p2), .val (.int p3), .val (.int p4), .val (.int (p1 &&& (3 : Int32))), .val (.int (own_f1 p2)), .val (.int (own_f1 p3)), .val (.int (own_f1 p4)), .unset, .unset] [(.int (p1 &&& (3 : Int32)))])) _
      refine XS.ifYes X6.here hx rfl (pc0 := 25) (pc' := 36) rfl (hb hby at_25) rfl ((if0 _ _).trans (feq hc25).2) (by decide) (by decide) ?_
      exact kt
    have pre18 : ∀ t, Steps p.tables e below (T6.setTop (mkF m 39 #[.val (.int p1), .val (.int p2), .val (.int p3), .val (.int p4), .val (.int (p1 &&& (3 : Int32))), .val (.int (own_f1 p2)), .val (.int (own_f1 p3)), .val (.int (own_f1 p4)), .unset, .unset] [(.int (1 : Int32)), (.int (p1 &&& (3 : Int32)))])) t → Steps p.tables e below (s₁.setTop (entryFrame m #[(.int p1), (.int p2), (.int p3), (.int p4)] maxLocals)) t := by
      intro t kt
      refine pre17 t ?_
      show Steps p.tables e below (T6.setTop (mkF m 36 #[.val (.int p1), .val (.int p2), .val (.int p3), .val (.int p4), .val (.int (p1 &&& (3 : Int32))), .val (.int (own_f1 p2)), .val (.int (own_f1 p3)), .val (.int (own_f1 p4)), .unset, .unset] [])) _
      refine XS.iload X6.here hx rfl (hb hby at_36) rfl ?_
      show Steps p.tables e below (T6.setTop (mkF m 38 #[.val (.int p1), .val (.int p2), .val (.int p3), .val (.int p4), .val (.int (p1 &&& (3 : Int32))), .val (.int (own_f1 p2)), .val (.int (own_f1 p3)), .val (.int (own_f1 p4)), .unset, .unset] [(.int (p1 &&& (3 : Int32)))])) _
      refine XS.iconst X6.here hx rfl (hb hby at_38) ?_
      exact kt
    by_cases hc39 : (p1 &&& (3 : Int32)) = (1 : Int32)
    · have pre19 : ∀ t, Steps p.tables e below (T6.setTop (mkF m 42 #[.val (.int p1), .val (.int p2), .val (.int p3), .val (.int p4), .val (.int (p1 &&& (3 : Int32))), .val (.int (own_f1 p2)), .val (.int (own_f1 p3)), .val (.int (own_f1 p4)), .unset, .unset] [])) t → Steps p.tables e below (s₁.setTop (entryFrame m #[(.int p1), (.int p2), (.int p3), (.int p4)] maxLocals)) t := by
        intro t kt
        refine pre18 t ?_
        show Steps p.tables e below (T6.setTop (mkF m 39 #[.val (.int p1), .val (.int p2), .val (.int p3), .val (.int p4), .val (.int (p1 &&& (3 : Int32))), .val (.int (own_f1 p2)), .val (.int (own_f1 p3)), .val (.int (own_f1 p4)), .unset, .unset] [(.int (1 : Int32)), (.int (p1 &&& (3 : Int32)))])) _
        refine XS.icmpNo X6.here hx rfl (hb hby at_39) rfl (teq hc39).2 ?_
        exact kt
      have pre20 : ∀ t, Steps p.tables e below (T6.setTop (mkF m 43 #[.val (.int p1), .val (.int p2), .val (.int p3), .val (.int p4), .val (.int (p1 &&& (3 : Int32))), .val (.int (own_f1 p2)), .val (.int (own_f1 p3)), .val (.int (own_f1 p4)), .unset, .unset] [(.int (1 : Int32))])) t → Steps p.tables e below (s₁.setTop (entryFrame m #[(.int p1), (.int p2), (.int p3), (.int p4)] maxLocals)) t := by
        intro t kt
        refine pre19 t ?_
        show Steps p.tables e below (T6.setTop (mkF m 42 #[.val (.int p1), .val (.int p2), .val (.int p3), .val (.int p4), .val (.int (p1 &&& (3 : Int32))), .val (.int (own_f1 p2)), .val (.int (own_f1 p3)), .val (.int (own_f1 p4)), .unset, .unset] [])) _
        refine XS.iconst X6.here hx rfl (hb hby at_42) ?_
        exact kt
      obtain ⟨T21, h21, k21, X21, e21, E21, A21, st21⟩ := newP X6 hx hZ (hw _ (List.mem_of_getElem? (i := 6) rfl)) e6 (g := (mkF m 43 #[.val (.int p1), .val (.int p2), .val (.int p3), .val (.int p4), .val (.int (p1 &&& (3 : Int32))), .val (.int (own_f1 p2)), .val (.int (own_f1 p3)), .val (.int (own_f1 p4)), .unset, .unset] [(.int (1 : Int32))])) rfl (hb hby at_43) rfl (by decide) (cap := 1) (by decide) (by decide) (by decide) (by decide)
      obtain ⟨b21, g21⟩ : ∃ z, z = h0.size := ⟨_, rfl⟩
      have g_b21 : n0 ≤ b21 := Nat.le_trans Z0 (Nat.le_of_eq g21.symm)
      have sz_b21 : h0.size ≤ b21 := Nat.le_trans (Keep.refl h0 []).1 (Nat.le_of_eq g21.symm)
      rw [← g21] at A21 st21
      have K21 : Keep h0 h21 [] := (Keep.refl h0 []).ext E21
      have Z21 : n0 ≤ h21.size := Nat.le_trans Z0 E21.1
      have V_b21 : Arv Z h21 b21 k21 .int (1 : Int32) [(.int (0 : Int32))] (.int (0 : Int32)) := (Arv.new A21 (by decide)).pad (pad_rep [] (.int (0 : Int32)) 1)
      have pre21 : ∀ t, Steps p.tables e below (T21.setTop (mkF m 45 #[.val (.int p1), .val (.int p2), .val (.int p3), .val (.int p4), .val (.int (p1 &&& (3 : Int32))), .val (.int (own_f1 p2)), .val (.int (own_f1 p3)), .val (.int (own_f1 p4)), .unset, .unset] [(.ref b21)])) t → Steps p.tables e below (s₁.setTop (entryFrame m #[(.int p1), (.int p2), (.int p3), (.int p4)] maxLocals)) t := fun t kt => pre20 t (st21 _ kt)
      have pre22 : ∀ t, Steps p.tables e below (T21.setTop (mkF m 49 #[.val (.int p1), .val (.int p2), .val (.int p3), .val (.int p4), .val (.int (p1 &&& (3 : Int32))), .val (.int (own_f1 p2)), .val (.int (own_f1 p3)), .val (.int (own_f1 p4)), .unset, .unset] [(.int (own_f1 p2)), (.int (0 : Int32)), (.ref b21), (.ref b21)])) t → Steps p.tables e below (s₁.setTop (entryFrame m #[(.int p1), (.int p2), (.int p3), (.int p4)] maxLocals)) t := by
        intro t kt
        refine pre21 t ?_
        show Steps p.tables e below (T21.setTop (mkF m 45 #[.val (.int p1), .val (.int p2), .val (.int p3), .val (.int p4), .val (.int (p1 &&& (3 : Int32))), .val (.int (own_f1 p2)), .val (.int (own_f1 p3)), .val (.int (own_f1 p4)), .unset, .unset] [(.ref b21)])) _
        refine XS.dup X21.here hx rfl (hb hby at_45) rfl rfl ?_
        show Steps p.tables e below (T21.setTop (mkF m 46 #[.val (.int p1), .val (.int p2), .val (.int p3), .val (.int p4), .val (.int (p1 &&& (3 : Int32))), .val (.int (own_f1 p2)), .val (.int (own_f1 p3)), .val (.int (own_f1 p4)), .unset, .unset] [(.ref b21), (.ref b21)])) _
        refine XS.iconst X21.here hx rfl (hb hby at_46) ?_
        show Steps p.tables e below (T21.setTop (mkF m 47 #[.val (.int p1), .val (.int p2), .val (.int p3), .val (.int p4), .val (.int (p1 &&& (3 : Int32))), .val (.int (own_f1 p2)), .val (.int (own_f1 p3)), .val (.int (own_f1 p4)), .unset, .unset] [(.int (0 : Int32)), (.ref b21), (.ref b21)])) _
        refine XS.iload X21.here hx rfl (hb hby at_47) rfl ?_
        exact kt
      obtain ⟨cl23, Ar23, q23, S23, M23, H23, G23⟩ := (id V_b21)
      have hin23 : ¬ ((0 : Int32) < 0 ∨ cl23.slots.size ≤ ((0 : Int32)).toNatClampNeg) := inb_of S23 ⟨by decide, by decide⟩
      obtain ⟨T23, h23, X23, e23, W23, st23⟩ := stI X21 hx hZ e21 Ar23 (j := (0 : Int32)) hin23 (g := (mkF m 49 #[.val (.int p1), .val (.int p2), .val (.int p3), .val (.int p4), .val (.int (p1 &&& (3 : Int32))), .val (.int (own_f1 p2)), .val (.int (own_f1 p3)), .val (.int (own_f1 p4)), .unset, .unset] [(.int (own_f1 p2)), (.int (0 : Int32)), (.ref b21), (.ref b21)])) rfl rfl (hb hby at_49)
      have V_b21_23 := Arv.set Ar23 q23 S23 M23 H23 G23 rfl W23 0 rfl (Nat.le_of_ble_eq_true rfl)
      have N23 := Fr.snoc X23 N6 g_b21
      have K23 : Keep h0 h23 [] := K21.wr W23 (Or.inr sz_b21)
      have Z23 : n0 ≤ h23.size := Nat.le_trans Z21 (Keep.of_wr W23).1
      have V_b21_23' : Arv Z h23 b21 k21 .int (1 : Int32) [(.int (own_f1 p2))] (.int (0 : Int32)) := V_b21_23
      have pre23 : ∀ t, Steps p.tables e below (T23.setTop (mkF m 50 #[.val (.int p1), .val (.int p2), .val (.int p3), .val (.int p4), .val (.int (p1 &&& (3 : Int32))), .val (.int (own_f1 p2)), .val (.int (own_f1 p3)), .val (.int (own_f1 p4)), .unset, .unset] [(.ref b21)])) t → Steps p.tables e below (s₁.setTop (entryFrame m #[(.int p1), (.int p2), (.int p3), (.int p4)] maxLocals)) t := fun t kt => pre22 t (st23 _ kt)
      have pre25 : ∀ t, Steps p.tables e below (T23.setTop (mkF m 102 #[.val (.int p1), .val (.int p2), .val (.int p3), .val (.int p4), .val (.int (p1 &&& (3 : Int32))), .val (.int (own_f1 p2)), .val (.int (own_f1 p3)), .val (.int (own_f1 p4)), .val (.ref b21), .unset] [(.int (1 : Int32)), (.int (p1 &&& (3 : Int32)))])) t → Steps p.tables e below (s₁.setTop (entryFrame m #[(.int p1), (.int p2), (.int p3), (.int p4)] maxLocals)) t := by
        intro t kt
        refine pre23 t ?_
        show Steps p.tables e below (T23.setTop (mkF m 50 #[.val (.int p1), .val (.int p2), .val (.int p3), .val (.int p4), .val (.int (p1 &&& (3 : Int32))), .val (.int (own_f1 p2)), .val (.int (own_f1 p3)), .val (.int (own_f1 p4)), .unset, .unset] [(.ref b21)])) _
        refine XS.astore X23.here hx rfl (hb hby at_50) rfl rfl (l' := #[.val (.int p1), .val (.int p2), .val (.int p3), .val (.int p4), .val (.int (p1 &&& (3 : Int32))), .val (.int (own_f1 p2)), .val (.int (own_f1 p3)), .val (.int (own_f1 p4)), .val (.ref b21), .unset]) rfl ?_
        show Steps p.tables e below (T23.setTop (mkF m 52 #[.val (.int p1), .val (.int p2), .val (.int p3), .val (.int p4), .val (.int (p1 &&& (3 : Int32))), .val (.int (own_f1 p2)), .val (.int (own_f1 p3)), .val (.int (own_f1 p4)), .val (.ref b21), .unset] [])) _
        refine XS.goto X23.here hx rfl (pc0 := 52) (pc' := 99) rfl (hb hby at_52) (by decide) (by decide) ?_
        show Steps p.tables e below (T23.setTop (mkF m 99 #[.val (.int p1), .val (.int p2), .val (.int p3), .val (.int p4), .val (.int (p1 &&& (3 : Int32))), .val (.int (own_f1 p2)), .val (.int (own_f1 p3)), .val (.int (own_f1 p4)), .val (.ref b21), .unset] [])) _
        refine XS.iload X23.here hx rfl (hb hby at_99) rfl ?_
        show Steps p.tables e below (T23.setTop (mkF m 101 #[.val (.int p1), .val (.int p2), .val (.int p3), .val (.int p4), .val (.int (p1 &&& (3 : Int32))), .val (.int (own_f1 p2)), .val (.int (own_f1 p3)), .val (.int (own_f1 p4)), .val (.ref b21), .unset] [(.int (p1 &&& (3 : Int32)))])) _
        refine XS.iconst X23.here hx rfl (hb hby at_101) ?_
        exact kt
      obtain ⟨v26_0, hv26_0, pre26⟩ : ∃ (v26_0 : Int32), v26_0 = (if (p1 &&& (3 : Int32)) < (1 : Int32) then (if (p1 &&& (3 : Int32)) < (2 : Int32) then (if (p1 &&& (3 : Int32)) < (3 : Int32) then (1 : Int32) else (if (own_f1 p4) < (128 : Int32) then (1 : Int32) else (0 : Int32))) else (if (own_f1 p3) < (128 : Int32) then (if (p1 &&& (3 : Int32)) < (3 : Int32) then (1 : Int32) else (if (own_f1 p4) < (128 : Int32) then (1 : Int32) else (0 : Int32))) else (0 : Int32))) else (if (own_f1 p2) < (128 : Int32) then (if (p1 &&& (3 : Int32)) < (2 : Int32) then (if (p1 &&& (3 : Int32)) < (3 : Int32) then (1 : Int32) else (if (own_f1 p4) < (128 : Int32) then (1 : Int32) else (0 : Int32))) else (if (own_f1 p3) < (128 : Int32) then (if (p1 &&& (3 : Int32)) < (3 : Int32) then (1 : Int32) else (if (own_f1 p4) < (128 : Int32) then (1 : Int32) else (0 : Int32))) else (0 : Int32))) else (0 : Int32))) ∧ ∀ t, Steps p.tables e below (T23.setTop (mkF m 146 #[.val (.int p1), .val (.int p2), .val (.int p3), .val (.int p4), .val (.int (p1 &&& (3 : Int32))), .val (.int (own_f1 p2)), .val (.int (own_f1 p3)), .val (.int (own_f1 p4)), .val (.ref b21), .unset] [(.int v26_0)])) t → Steps p.tables e below (s₁.setTop (entryFrame m #[(.int p1), (.int p2), (.int p3), (.int p4)] maxLocals)) t := by
        refine ⟨_, rfl, ?_⟩
        intro t kt
        refine pre25 t ?_
        show Steps p.tables e below (T23.setTop (mkF m 102 #[.val (.int p1), .val (.int p2), .val (.int p3), .val (.int p4), .val (.int (p1 &&& (3 : Int32))), .val (.int (own_f1 p2)), .val (.int (own_f1 p3)), .val (.int (own_f1 p4)), .val (.ref b21), .unset] [(.int (1 : Int32)), (.int (p1 &&& (3 : Int32)))])) _
        by_cases hc102 : (p1 &&& (3 : Int32)) < (1 : Int32)
        · (try simp only [if_pos hc102] at kt)
          refine XS.icmpYes X23.here hx rfl (pc0 := 102) (pc' := 113) rfl (hb hby at_102) rfl (tlt hc102).1 (by decide) (by decide) ?_
          show Steps p.tables e below (T23.setTop (mkF m 113 #[.val (.int p1), .val (.int p2), .val (.int p3), .val (.int p4), .val (.int (p1 &&& (3 : Int32))), .val (.int (own_f1 p2)), .val (.int (own_f1 p3)), .val (.int (own_f1 p4)), .val (.ref b21), .unset] [])) _
          refine XS.iload X23.here hx rfl (hb hby at_113) rfl ?_
          show Steps p.tables e below (T23.setTop (mkF m 115 #[.val (.int p1), .val (.int p2), .val (.int p3), .val (.int p4), .val (.int (p1 &&& (3 : Int32))), .val (.int (own_f1 p2)), .val (.int (own_f1 p3)), .val (.int (own_f1 p4)), .val (.ref b21), .unset] [(.int (p1 &&& (3 : Int32)))])) _
          refine XS.iconst X23.here hx rfl (hb hby at_115) ?_
          show Steps p.tables e below (T23.setTop (mkF m 116 #[.val (.int p1), .val (.int p2), .val (.int p3), .val (.int p4), .val (.int (p1 &&& (3 : Int32))), .val (.int (own_f1 p2)), .val (.int (own_f1 p3)), .val (.int (own_f1 p4)), .val (.ref b21), .unset] [(.int (2 : Int32)), (.int (p1 &&& (3 : Int32)))])) _
          by_cases hc116 : (p1 &&& (3 : Int32)) < (2 : Int32)
          · (try simp only [if_pos hc116] at kt)
            refine XS.icmpYes X23.here hx rfl (pc0 := 116) (pc' := 127) rfl (hb hby at_116) rfl (tlt hc116).1 (by decide) (by decide) ?_
            show Steps p.tables e below (T23.setTop (mkF m 127 #[.val (.int p1), .val (.int p2), .val (.int p3), .val (.int p4), .val (.int (p1 &&& (3 : Int32))), .val (.int (own_f1 p2)), .val (.int (own_f1 p3)), .val (.int (own_f1 p4)), .val (.ref b21), .unset] [])) _
            refine XS.iload X23.here hx rfl (hb hby at_127) rfl ?_
            show Steps p.tables e below (T23.setTop (mkF m 129 #[.val (.int p1), .val (.int p2), .val (.int p3), .val (.int p4), .val (.int (p1 &&& (3 : Int32))), .val (.int (own_f1 p2)), .val (.int (own_f1 p3)), .val (.int (own_f1 p4)), .val (.ref b21), .unset] [(.int (p1 &&& (3 : Int32)))])) _
            refine XS.iconst X23.here hx rfl (hb hby at_129) ?_
            show Steps p.tables e below (T23.setTop (mkF m 130 #[.val (.int p1), .val (.int p2), .val (.int p3), .val (.int p4), .val (.int (p1 &&& (3 : Int32))), .val (.int (own_f1 p2)), .val (.int (own_f1 p3)), .val (.int (own_f1 p4)), .val (.ref b21), .unset] [(.int (3 : Int32)), (.int (p1 &&& (3 : Int32)))])) _
            by_cases hc130 : (p1 &&& (3 : Int32)) < (3 : Int32)
            · (try simp only [if_pos hc130] at kt)
              refine XS.icmpYes X23.here hx rfl (pc0 := 130) (pc' := 141) rfl (hb hby at_130) rfl (tlt hc130).1 (by decide) (by decide) ?_
              show Steps p.tables e below (T23.setTop (mkF m 141 #[.val (.int p1), .val (.int p2), .val (.int p3), .val (.int p4), .val (.int (p1 &&& (3 : Int32))), .val (.int (own_f1 p2)), .val (.int (own_f1 p3)), .val (.int (own_f1 p4)), .val (.ref b21), .unset] [])) _
              refine XS.iconst X23.here hx rfl (hb hby at_141) ?_
              show Steps p.tables e below (T23.setTop (mkF m 142 #[.val (.int p1), .val (.int p2), .val (.int p3), .val (.int p4), .val (.int (p1 &&& (3 : Int32))), .val (.int (own_f1 p2)), .val (.int (own_f1 p3)), .val (.int (own_f1 p4)), .val (.ref b21), .unset] [(.int (1 : Int32))])) _
              refine XS.goto X23.here hx rfl (pc0 := 142) (pc' := 146) rfl (hb hby at_142) (by decide) (by decide) ?_
              exact kt
            · (try simp only [if_neg hc130] at kt)
              refine XS.icmpNo X23.here hx rfl (hb hby at_130) rfl (flt hc130).1 ?_
              show Steps p.tables e below (T23.setTop (mkF m 133 #[.val (.int p1), .val (.int p2), .val (.int p3), .val (.int p4), .val (.int (p1 &&& (3 : Int32))), .val (.int (own_f1 p2)), .val (.int (own_f1 p3)), .val (.int (own_f1 p4)), .val (.ref b21), .unset] [])) _
              refine XS.iload X23.here hx rfl (hb hby at_133) rfl ?_
              show Steps p.tables e below (T23.setTop (mkF m 135 #[.val (.int p1), .val (.int p2), .val (.int p3), .val (.int p4), .val (.int (p1 &&& (3 : Int32))), .val (.int (own_f1 p2)), .val (.int (own_f1 p3)), .val (.int (own_f1 p4)), .val (.ref b21), .unset] [(.int (own_f1 p4))])) _
              refine XS.sipush X23.here hx rfl (hb hby at_135) ?_
              show Steps p.tables e below (T23.setTop (mkF m 138 #[.val (.int p1), .val (.int p2), .val (.int p3), .val (.int p4), .val (.int (p1 &&& (3 : Int32))), .val (.int (own_f1 p2)), .val (.int (own_f1 p3)), .val (.int (own_f1 p4)), .val (.ref b21), .unset] [(.int (128 : Int32)), (.int (own_f1 p4))])) _
              by_cases hc138 : (own_f1 p4) < (128 : Int32)
              · (try simp only [if_pos hc138] at kt)
                refine XS.icmpNo X23.here hx rfl (hb hby at_138) rfl (tlt hc138).2.1 ?_
                show Steps p.tables e below (T23.setTop (mkF m 141 #[.val (.int p1), .val (.int p2), .val (.int p3), .val (.int p4), .val (.int (p1 &&& (3 : Int32))), .val (.int (own_f1 p2)), .val (.int (own_f1 p3)), .val (.int (own_f1 p4)), .val (.ref b21), .unset] [])) _
                refine XS.iconst X23.here hx rfl (hb hby at_141) ?_
                show Steps p.tables e below (T23.setTop (mkF m 142 #[.val (.int p1), .val (.int p2), .val (.int p3), .val (.int p4), .val (.int (p1 &&& (3 : Int32))), .val (.int (own_f1 p2)), .val (.int (own_f1 p3)), .val (.int (own_f1 p4)), .val (.ref b21), .unset] [(.int (1 : Int32))])) _
                refine XS.goto X23.here hx rfl (pc0 := 142) (pc' := 146) rfl (hb hby at_142) (by decide) (by decide) ?_
                exact kt
              · (try simp only [if_neg hc138] at kt)
                refine XS.icmpYes X23.here hx rfl (pc0 := 138) (pc' := 145) rfl (hb hby at_138) rfl (flt hc138).2.1 (by decide) (by decide) ?_
                show Steps p.tables e below (T23.setTop (mkF m 145 #[.val (.int p1), .val (.int p2), .val (.int p3), .val (.int p4), .val (.int (p1 &&& (3 : Int32))), .val (.int (own_f1 p2)), .val (.int (own_f1 p3)), .val (.int (own_f1 p4)), .val (.ref b21), .unset] [])) _
                refine XS.iconst X23.here hx rfl (hb hby at_145) ?_
                exact kt
          · (try simp only [if_neg hc116] at kt)
            refine XS.icmpNo X23.here hx rfl (hb hby at_116) rfl (flt hc116).1 ?_
            show Steps p.tables e below (T23.setTop (mkF m 119 #[.val (.int p1), .val (.int p2), .val (.int p3), .val (.int p4), .val (.int (p1 &&& (3 : Int32))), .val (.int (own_f1 p2)), .val (.int (own_f1 p3)), .val (.int (own_f1 p4)), .val (.ref b21), .unset] [])) _
            refine XS.iload X23.here hx rfl (hb hby at_119) rfl ?_
            show Steps p.tables e below (T23.setTop (mkF m 121 #[.val (.int p1), .val (.int p2), .val (.int p3), .val (.int p4), .val (.int (p1 &&& (3 : Int32))), .val (.int (own_f1 p2)), .val (.int (own_f1 p3)), .val (.int (own_f1 p4)), .val (.ref b21), .unset] [(.int (own_f1 p3))])) _
            refine XS.sipush X23.here hx rfl (hb hby at_121) ?_
            show Steps p.tables e below (T23.setTop (mkF m 124 #[.val (.int p1), .val (.int p2), .val (.int p3), .val (.int p4), .val (.int (p1 &&& (3 : Int32))), .val (.int (own_f1 p2)), .val (.int (own_f1 p3)), .val (.int (own_f1 p4)), .val (.ref b21), .unset] [(.int (128 : Int32)), (.int (own_f1 p3))])) _
            by_cases hc124 : (own_f1 p3) < (128 : Int32)
            · (try simp only [if_pos hc124] at kt)
              refine XS.icmpNo X23.here hx rfl (hb hby at_124) rfl (tlt hc124).2.1 ?_
              show Steps p.tables e below (T23.setTop (mkF m 127 #[.val (.int p1), .val (.int p2), .val (.int p3), .val (.int p4), .val (.int (p1 &&& (3 : Int32))), .val (.int (own_f1 p2)), .val (.int (own_f1 p3)), .val (.int (own_f1 p4)), .val (.ref b21), .unset] [])) _
              refine XS.iload X23.here hx rfl (hb hby at_127) rfl ?_
              show Steps p.tables e below (T23.setTop (mkF m 129 #[.val (.int p1), .val (.int p2), .val (.int p3), .val (.int p4), .val (.int (p1 &&& (3 : Int32))), .val (.int (own_f1 p2)), .val (.int (own_f1 p3)), .val (.int (own_f1 p4)), .val (.ref b21), .unset] [(.int (p1 &&& (3 : Int32)))])) _
              refine XS.iconst X23.here hx rfl (hb hby at_129) ?_
              show Steps p.tables e below (T23.setTop (mkF m 130 #[.val (.int p1), .val (.int p2), .val (.int p3), .val (.int p4), .val (.int (p1 &&& (3 : Int32))), .val (.int (own_f1 p2)), .val (.int (own_f1 p3)), .val (.int (own_f1 p4)), .val (.ref b21), .unset] [(.int (3 : Int32)), (.int (p1 &&& (3 : Int32)))])) _
              by_cases hc130 : (p1 &&& (3 : Int32)) < (3 : Int32)
              · (try simp only [if_pos hc130] at kt)
                refine XS.icmpYes X23.here hx rfl (pc0 := 130) (pc' := 141) rfl (hb hby at_130) rfl (tlt hc130).1 (by decide) (by decide) ?_
                show Steps p.tables e below (T23.setTop (mkF m 141 #[.val (.int p1), .val (.int p2), .val (.int p3), .val (.int p4), .val (.int (p1 &&& (3 : Int32))), .val (.int (own_f1 p2)), .val (.int (own_f1 p3)), .val (.int (own_f1 p4)), .val (.ref b21), .unset] [])) _
                refine XS.iconst X23.here hx rfl (hb hby at_141) ?_
                show Steps p.tables e below (T23.setTop (mkF m 142 #[.val (.int p1), .val (.int p2), .val (.int p3), .val (.int p4), .val (.int (p1 &&& (3 : Int32))), .val (.int (own_f1 p2)), .val (.int (own_f1 p3)), .val (.int (own_f1 p4)), .val (.ref b21), .unset] [(.int (1 : Int32))])) _
                refine XS.goto X23.here hx rfl (pc0 := 142) (pc' := 146) rfl (hb hby at_142) (by decide) (by decide) ?_
                exact kt
              · (try simp only [if_neg hc130] at kt)
                refine XS.icmpNo X23.here hx rfl (hb hby at_130) rfl (flt hc130).1 ?_
                show Steps p.tables e below (T23.setTop (mkF m 133 #[.val (.int p1), .val (.int p2), .val (.int p3), .val (.int p4), .val (.int (p1 &&& (3 : Int32))), .val (.int (own_f1 p2)), .val (.int (own_f1 p3)), .val (.int (own_f1 p4)), .val (.ref b21), .unset] [])) _
                refine XS.iload X23.here hx rfl (hb hby at_133) rfl ?_
                show Steps p.tables e below (T23.setTop (mkF m 135 #[.val (.int p1), .val (.int p2), .val (.int p3), .val (.int p4), .val (.int (p1 &&& (3 : Int32))), .val (.int (own_f1 p2)), .val (.int (own_f1 p3)), .val (.int (own_f1 p4)), .val (.ref b21), .unset] [(.int (own_f1 p4))])) _
                refine XS.sipush X23.here hx rfl (hb hby at_135) ?_
                show Steps p.tables e below (T23.setTop (mkF m 138 #[.val (.int p1), .val (.int p2), .val (.int p3), .val (.int p4), .val (.int (p1 &&& (3 : Int32))), .val (.int (own_f1 p2)), .val (.int (own_f1 p3)), .val (.int (own_f1 p4)), .val (.ref b21), .unset] [(.int (128 : Int32)), (.int (own_f1 p4))])) _
                by_cases hc138 : (own_f1 p4) < (128 : Int32)
                · (try simp only [if_pos hc138] at kt)
                  refine XS.icmpNo X23.here hx rfl (hb hby at_138) rfl (tlt hc138).2.1 ?_
                  show Steps p.tables e below (T23.setTop (mkF m 141 #[.val (.int p1), .val (.int p2), .val (.int p3), .val (.int p4), .val (.int (p1 &&& (3 : Int32))), .val (.int (own_f1 p2)), .val (.int (own_f1 p3)), .val (.int (own_f1 p4)), .val (.ref b21), .unset] [])) _
                  refine XS.iconst X23.here hx rfl (hb hby at_141) ?_
                  show Steps p.tables e below (T23.setTop (mkF m 142 #[.val (.int p1), .val (.int p2), .val (.int p3), .val (.int p4), .val (.int (p1 &&& (3 : Int32))), .val (.int (own_f1 p2)), .val (.int (own_f1 p3)), .val (.int (own_f1 p4)), .val (.ref b21), .unset] [(.int (1 : Int32))])) _
                  refine XS.goto X23.here hx rfl (pc0 := 142) (pc' := 146) rfl (hb hby at_142) (by decide) (by decide) ?_
                  exact kt
                · (try simp only [if_neg hc138] at kt)
                  refine XS.icmpYes X23.here hx rfl (pc0 := 138) (pc' := 145) rfl (hb hby at_138) rfl (flt hc138).2.1 (by decide) (by decide) ?_
                  show Steps p.tables e below (T23.setTop (mkF m 145 #[.val (.int p1), .val (.int p2), .val (.int p3), .val (.int p4), .val (.int (p1 &&& (3 : Int32))), .val (.int (own_f1 p2)), .val (.int (own_f1 p3)), .val (.int (own_f1 p4)), .val (.ref b21), .unset] [])) _
                  refine XS.iconst X23.here hx rfl (hb hby at_145) ?_
                  exact kt
            · (try simp only [if_neg hc124] at kt)
              refine XS.icmpYes X23.here hx rfl (pc0 := 124) (pc' := 145) rfl (hb hby at_124) rfl (flt hc124).2.1 (by decide) (by decide) ?_
              show Steps p.tables e below (T23.setTop (mkF m 145 #[.val (.int p1), .val (.int p2), .val (.int p3), .val (.int p4), .val (.int (p1 &&& (3 : Int32))), .val (.int (own_f1 p2)), .val (.int (own_f1 p3)), .val (.int (own_f1 p4)), .val (.ref b21), .unset] [])) _
              refine XS.iconst X23.here hx rfl (hb hby at_145) ?_
              exact kt
        · (try simp only [if_neg hc102] at kt)
          refine XS.icmpNo X23.here hx rfl (hb hby at_102) rfl (flt hc102).1 ?_
          show Steps p.tables e below (T23.setTop (mkF m 105 #[.val (.int p1), .val (.int p2), .val (.int p3), .val (.int p4), .val (.int (p1 &&& (3 : Int32))), .val (.int (own_f1 p2)), .val (.int (own_f1 p3)), .val (.int (own_f1 p4)), .val (.ref b21), .unset] [])) _
          refine XS.iload X23.here hx rfl (hb hby at_105) rfl ?_
          show Steps p.tables e below (T23.setTop (mkF m 107 #[.val (.int p1), .val (.int p2), .val (.int p3), .val (.int p4), .val (.int (p1 &&& (3 : Int32))), .val (.int (own_f1 p2)), .val (.int (own_f1 p3)), .val (.int (own_f1 p4)), .val (.ref b21), .unset] [(.int (own_f1 p2))])) _
          refine XS.sipush X23.here hx rfl (hb hby at_107) ?_
          show Steps p.tables e below (T23.setTop (mkF m 110 #[.val (.int p1), .val (.int p2), .val (.int p3), .val (.int p4), .val (.int (p1 &&& (3 : Int32))), .val (.int (own_f1 p2)), .val (.int (own_f1 p3)), .val (.int (own_f1 p4)), .val (.ref b21), .unset] [(.int (128 : Int32)), (.int (own_f1 p2))])) _
          by_cases hc110 : (own_f1 p2) < (128 : Int32)
          · (try simp only [if_pos hc110] at kt)
            refine XS.icmpNo X23.here hx rfl (hb hby at_110) rfl (tlt hc110).2.1 ?_
            show Steps p.tables e below (T23.setTop (mkF m 113 #[.val (.int p1), .val (.int p2), .val (.int p3), .val (.int p4), .val (.int (p1 &&& (3 : Int32))), .val (.int (own_f1 p2)), .val (.int (own_f1 p3)), .val (.int (own_f1 p4)), .val (.ref b21), .unset] [])) _
            refine XS.iload X23.here hx rfl (hb hby at_113) rfl ?_
            show Steps p.tables e below (T23.setTop (mkF m 115 #[.val (.int p1), .val (.int p2), .val (.int p3), .val (.int p4), .val (.int (p1 &&& (3 : Int32))), .val (.int (own_f1 p2)), .val (.int (own_f1 p3)), .val (.int (own_f1 p4)), .val (.ref b21), .unset] [(.int (p1 &&& (3 : Int32)))])) _
            refine XS.iconst X23.here hx rfl (hb hby at_115) ?_
            show Steps p.tables e below (T23.setTop (mkF m 116 #[.val (.int p1), .val (.int p2), .val (.int p3), .val (.int p4), .val (.int (p1 &&& (3 : Int32))), .val (.int (own_f1 p2)), .val (.int (own_f1 p3)), .val (.int (own_f1 p4)), .val (.ref b21), .unset] [(.int (2 : Int32)), (.int (p1 &&& (3 : Int32)))])) _
            by_cases hc116 : (p1 &&& (3 : Int32)) < (2 : Int32)
            · (try simp only [if_pos hc116] at kt)
              refine XS.icmpYes X23.here hx rfl (pc0 := 116) (pc' := 127) rfl (hb hby at_116) rfl (tlt hc116).1 (by decide) (by decide) ?_
              show Steps p.tables e below (T23.setTop (mkF m 127 #[.val (.int p1), .val (.int p2), .val (.int p3), .val (.int p4), .val (.int (p1 &&& (3 : Int32))), .val (.int (own_f1 p2)), .val (.int (own_f1 p3)), .val (.int (own_f1 p4)), .val (.ref b21), .unset] [])) _
              refine XS.iload X23.here hx rfl (hb hby at_127) rfl ?_
              show Steps p.tables e below (T23.setTop (mkF m 129 #[.val (.int p1), .val (.int p2), .val (.int p3), .val (.int p4), .val (.int (p1 &&& (3 : Int32))), .val (.int (own_f1 p2)), .val (.int (own_f1 p3)), .val (.int (own_f1 p4)), .val (.ref b21), .unset] [(.int (p1 &&& (3 : Int32)))])) _
              refine XS.iconst X23.here hx rfl (hb hby at_129) ?_
              show Steps p.tables e below (T23.setTop (mkF m 130 #[.val (.int p1), .val (.int p2), .val (.int p3), .val (.int p4), .val (.int (p1 &&& (3 : Int32))), .val (.int (own_f1 p2)), .val (.int (own_f1 p3)), .val (.int (own_f1 p4)), .val (.ref b21), .unset] [(.int (3 : Int32)), (.int (p1 &&& (3 : Int32)))])) _
              by_cases hc130 : (p1 &&& (3 : Int32)) < (3 : Int32)
              · (try simp only [if_pos hc130] at kt)
                refine XS.icmpYes X23.here hx rfl (pc0 := 130) (pc' := 141) rfl (hb hby at_130) rfl (tlt hc130).1 (by decide) (by decide) ?_
                show Steps p.tables e below (T23.setTop (mkF m 141 #[.val (.int p1), .val (.int p2), .val (.int p3), .val (.int p4), .val (.int (p1 &&& (3 : Int32))), .val (.int (own_f1 p2)), .val (.int (own_f1 p3)), .val (.int (own_f1 p4)), .val (.ref b21), .unset] [])) _
                refine XS.iconst X23.here hx rfl (hb hby at_141) ?_
                show Steps p.tables e below (T23.setTop (mkF m 142 #[.val (.int p1), .val (.int p2), .val (.int p3), .val (.int p4), .val (.int (p1 &&& (3 : Int32))), .val (.int (own_f1 p2)), .val (.int (own_f1 p3)), .val (.int (own_f1 p4)), .val (.ref b21), .unset] [(.int (1 : Int32))])) _
                refine XS.goto X23.here hx rfl (pc0 := 142) (pc' := 146) rfl (hb hby at_142) (by decide) (by decide) ?_
                exact kt
              · (try simp only [if_neg hc130] at kt)
                refine XS.icmpNo X23.here hx rfl (hb hby at_130) rfl (flt hc130).1 ?_
                show Steps p.tables e below (T23.setTop (mkF m 133 #[.val (.int p1), .val (.int p2), .val (.int p3), .val (.int p4), .val (.int (p1 &&& (3 : Int32))), .val (.int (own_f1 p2)), .val (.int (own_f1 p3)), .val (.int (own_f1 p4)), .val (.ref b21), .unset] [])) _
                refine XS.iload X23.here hx rfl (hb hby at_133) rfl ?_
                show Steps p.tables e below (T23.setTop (mkF m 135 #[.val (.int p1), .val (.int p2), .val (.int p3), .val (.int p4), .val (.int (p1 &&& (3 : Int32))), .val (.int (own_f1 p2)), .val (.int (own_f1 p3)), .val (.int (own_f1 p4)), .val (.ref b21), .unset] [(.int (own_f1 p4))])) _
                refine XS.sipush X23.here hx rfl (hb hby at_135) ?_
                show Steps p.tables e below (T23.setTop (mkF m 138 #[.val (.int p1), .val (.int p2), .val (.int p3), .val (.int p4), .val (.int (p1 &&& (3 : Int32))), .val (.int (own_f1 p2)), .val (.int (own_f1 p3)), .val (.int (own_f1 p4)), .val (.ref b21), .unset] [(.int (128 : Int32)), (.int (own_f1 p4))])) _
                by_cases hc138 : (own_f1 p4) < (128 : Int32)
                · (try simp only [if_pos hc138] at kt)
                  refine XS.icmpNo X23.here hx rfl (hb hby at_138) rfl (tlt hc138).2.1 ?_
                  show Steps p.tables e below (T23.setTop (mkF m 141 #[.val (.int p1), .val (.int p2), .val (.int p3), .val (.int p4), .val (.int (p1 &&& (3 : Int32))), .val (.int (own_f1 p2)), .val (.int (own_f1 p3)), .val (.int (own_f1 p4)), .val (.ref b21), .unset] [])) _
                  refine XS.iconst X23.here hx rfl (hb hby at_141) ?_
                  show Steps p.tables e below (T23.setTop (mkF m 142 #[.val (.int p1), .val (.int p2), .val (.int p3), .val (.int p4), .val (.int (p1 &&& (3 : Int32))), .val (.int (own_f1 p2)), .val (.int (own_f1 p3)), .val (.int (own_f1 p4)), .val (.ref b21), .unset] [(.int (1 : Int32))])) _
                  refine XS.goto X23.here hx rfl (pc0 := 142) (pc' := 146) rfl (hb hby at_142) (by decide) (by decide) ?_
                  exact kt
                · (try simp only [if_neg hc138] at kt)
                  refine XS.icmpYes X23.here hx rfl (pc0 := 138) (pc' := 145) rfl (hb hby at_138) rfl (flt hc138).2.1 (by decide) (by decide) ?_
                  show Steps p.tables e below (T23.setTop (mkF m 145 #[.val (.int p1), .val (.int p2), .val (.int p3), .val (.int p4), .val (.int (p1 &&& (3 : Int32))), .val (.int (own_f1 p2)), .val (.int (own_f1 p3)), .val (.int (own_f1 p4)), .val (.ref b21), .unset] [])) _
                  refine XS.iconst X23.here hx rfl (hb hby at_145) ?_
                  exact kt
            · (try simp only [if_neg hc116] at kt)
              refine XS.icmpNo X23.here hx rfl (hb hby at_116) rfl (flt hc116).1 ?_
              show Steps p.tables e below (T23.setTop (mkF m 119 #[.val (.int p1), .val (.int p2), .val (.int p3), .val (.int p4), .val (.int (p1 &&& (3 : Int32))), .val (.int (own_f1 p2)), .val (.int (own_f1 p3)), .val (.int (own_f1 p4)), .val (.ref b21), .unset] [])) _
              refine XS.iload X23.here hx rfl (hb hby at_119) rfl ?_
              show Steps p.tables e below (T23.setTop (mkF m 121 #[.val (.int p1), .val (.int p2), .val (.int p3), .val (.int p4), .val (.int (p1 &&& (3 : Int32))), .val (.int (own_f1 p2)), .val (.int (own_f1 p3)), .val (.int (own_f1 p4)), .val (.ref b21), .unset] [(.int (own_f1 p3))])) _
              refine XS.sipush X23.here hx rfl (hb hby at_121) ?_
              show Steps p.tables e below (T23.setTop (mkF m 124 #[.val (.int p1), .val (.int p2), .val (.int p3), .val (.int p4), .val (.int (p1 &&& (3 : Int32))), .val (.int (own_f1 p2)), .val (.int (own_f1 p3)), .val (.int (own_f1 p4)), .val (.ref b21), .unset] [(.int (128 : Int32)), (.int (own_f1 p3))])) _
              by_cases hc124 : (own_f1 p3) < (128 : Int32)
              · (try simp only [if_pos hc124] at kt)
                refine XS.icmpNo X23.here hx rfl (hb hby at_124) rfl (tlt hc124).2.1 ?_
                show Steps p.tables e below (T23.setTop (mkF m 127 #[.val (.int p1), .val (.int p2), .val (.int p3), .val (.int p4), .val (.int (p1 &&& (3 : Int32))), .val (.int (own_f1 p2)), .val (.int (own_f1 p3)), .val (.int (own_f1 p4)), .val (.ref b21), .unset] [])) _
                refine XS.iload X23.here hx rfl (hb hby at_127) rfl ?_
                show Steps p.tables e below (T23.setTop (mkF m 129 #[.val (.int p1), .val (.int p2), .val (.int p3), .val (.int p4), .val (.int (p1 &&& (3 : Int32))), .val (.int (own_f1 p2)), .val (.int (own_f1 p3)), .val (.int (own_f1 p4)), .val (.ref b21), .unset] [(.int (p1 &&& (3 : Int32)))])) _
                refine XS.iconst X23.here hx rfl (hb hby at_129) ?_
                show Steps p.tables e below (T23.setTop (mkF m 130 #[.val (.int p1), .val (.int p2), .val (.int p3), .val (.int p4), .val (.int (p1 &&& (3 : Int32))), .val (.int (own_f1 p2)), .val (.int (own_f1 p3)), .val (.int (own_f1 p4)), .val (.ref b21), .unset] [(.int (3 : Int32)), (.int (p1 &&& (3 : Int32)))])) _
                by_cases hc130 : (p1 &&& (3 : Int32)) < (3 : Int32)
                · (try simp only [if_pos hc130] at kt)
                  refine XS.icmpYes X23.here hx rfl (pc0 := 130) (pc' := 141) rfl (hb hby at_130) rfl (tlt hc130).1 (by decide) (by decide) ?_
                  show Steps p.tables e below (T23.setTop (mkF m 141 #[.val (.int p1), .val (.int p2), .val (.int p3), .val (.int p4), .val (.int (p1 &&& (3 : Int32))), .val (.int (own_f1 p2)), .val (.int (own_f1 p3)), .val (.int (own_f1 p4)), .val (.ref b21), .unset] [])) _
                  refine XS.iconst X23.here hx rfl (hb hby at_141) ?_
                  show Steps p.tables e below (T23.setTop (mkF m 142 #[.val (.int p1), .val (.int p2), .val (.int p3), .val (.int p4), .val (.int (p1 &&& (3 : Int32))), .val (.int (own_f1 p2)), .val (.int (own_f1 p3)), .val (.int (own_f1 p4)), .val (.ref b21), .unset] [(.int (1 : Int32))])) _
                  refine XS.goto X23.here hx rfl (pc0 := 142) (pc' := 146) rfl (hb hby at_142) (by decide) (by decide) ?_
                  exact kt
                · (try simp only [if_neg hc130] at kt)
                  refine XS.icmpNo X23.here hx rfl (hb hby at_130) rfl (flt hc130).1 ?_
                  show Steps p.tables e below (T23.setTop (mkF m 133 #[.val (.int p1), .val (.int p2), .val (.int p3), .val (.int p4), .val (.int (p1 &&& (3 : Int32))), .val (.int (own_f1 p2)), .val (.int (own_f1 p3)), .val (.int (own_f1 p4)), .val (.ref b21), .unset] [])) _
                  refine XS.iload X23.here hx rfl (hb hby at_133) rfl ?_
                  show Steps p.tables e below (T23.setTop (mkF m 135 #[.val (.int p1), .val (.int p2), .val (.int p3), .val (.int p4), .val (.int (p1 &&& (3 : Int32))), .val (.int (own_f1 p2)), .val (.int (own_f1 p3)), .val (.int (own_f1 p4)), .val (.ref b21), .unset] [(.int (own_f1 p4))])) _
                  refine XS.sipush X23.here hx rfl (hb hby at_135) ?_
                  show Steps p.tables e below (T23.setTop (mkF m 138 #[.val (.int p1), .val (.int p2), .val (.int p3), .val (.int p4), .val (.int (p1 &&& (3 : Int32))), .val (.int (own_f1 p2)), .val (.int (own_f1 p3)), .val (.int (own_f1 p4)), .val (.ref b21), .unset] [(.int (128 : Int32)), (.int (own_f1 p4))])) _
                  by_cases hc138 : (own_f1 p4) < (128 : Int32)
                  · (try simp only [if_pos hc138] at kt)
                    refine XS.icmpNo X23.here hx rfl (hb hby at_138) rfl (tlt hc138).2.1 ?_
                    show Steps p.tables e below (T23.setTop (mkF m 141 #[.val (.int p1), .val (.int p2), .val (.int p3), .val (.int p4), .val (.int (p1 &&& (3 : Int32))), .val (.int (own_f1 p2)), .val (.int (own_f1 p3)), .val (.int (own_f1 p4)), .val (.ref b21), .unset] [])) _
                    refine XS.iconst X23.here hx rfl (hb hby at_141) ?_
                    show Steps p.tables e below (T23.setTop (mkF m 142 #[.val (.int p1), .val (.int p2), .val (.int p3), .val (.int p4), .val (.int (p1 &&& (3 : Int32))), .val (.int (own_f1 p2)), .val (.int (own_f1 p3)), .val (.int (own_f1 p4)), .val (.ref b21), .unset] [(.int (1 : Int32))])) _
                    refine XS.goto X23.here hx rfl (pc0 := 142) (pc' := 146) rfl (hb hby at_142) (by decide) (by decide) ?_
                    exact kt
                  · (try simp only [if_neg hc138] at kt)
                    refine XS.icmpYes X23.here hx rfl (pc0 := 138) (pc' := 145) rfl (hb hby at_138) rfl (flt hc138).2.1 (by decide) (by decide) ?_
                    show Steps p.tables e below (T23.setTop (mkF m 145 #[.val (.int p1), .val (.int p2), .val (.int p3), .val (.int p4), .val (.int (p1 &&& (3 : Int32))), .val (.int (own_f1 p2)), .val (.int (own_f1 p3)), .val (.int (own_f1 p4)), .val (.ref b21), .unset] [])) _
                    refine XS.iconst X23.here hx rfl (hb hby at_145) ?_
                    exact kt
              · (try simp only [if_neg hc124] at kt)
                refine XS.icmpYes X23.here hx rfl (pc0 := 124) (pc' := 145) rfl (hb hby at_124) rfl (flt hc124).2.1 (by decide) (by decide) ?_
                show Steps p.tables e below (T23.setTop (mkF m 145 #[.val (.int p1), .val (.int p2), .val (.int p3), .val (.int p4), .val (.int (p1 &&& (3 : Int32))), .val (.int (own_f1 p2)), .val (.int (own_f1 p3)), .val (.int (own_f1 p4)), .val (.ref b21), .unset] [])) _
                refine XS.iconst X23.here hx rfl (hb hby at_145) ?_
                exact kt
          · (try simp only [if_neg hc110] at kt)
            refine XS.icmpYes X23.here hx rfl (pc0 := 110) (pc' := 145) rfl (hb hby at_110) rfl (flt hc110).2.1 (by decide) (by decide) ?_
            show Steps p.tables e below (T23.setTop (mkF m 145 #[.val (.int p1), .val (.int p2), .val (.int p3), .val (.int p4), .val (.int (p1 &&& (3 : Int32))), .val (.int (own_f1 p2)), .val (.int (own_f1 p3)), .val (.int (own_f1 p4)), .val (.ref b21), .unset] [])) _
            refine XS.iconst X23.here hx rfl (hb hby at_145) ?_
            exact kt
      have pre27 : ∀ t, Steps p.tables e below (T23.setTop (mkF m 150 #[.val (.int p1), .val (.int p2), .val (.int p3), .val (.int p4), .val (.int (p1 &&& (3 : Int32))), .val (.int (own_f1 p2)), .val (.int (own_f1 p3)), .val (.int (own_f1 p4)), .val (.ref b21), .val (.int v26_0)] [(.ref b21)])) t → Steps p.tables e below (s₁.setTop (entryFrame m #[(.int p1), (.int p2), (.int p3), (.int p4)] maxLocals)) t := by
        intro t kt
        refine pre26 t ?_
        show Steps p.tables e below (T23.setTop (mkF m 146 #[.val (.int p1), .val (.int p2), .val (.int p3), .val (.int p4), .val (.int (p1 &&& (3 : Int32))), .val (.int (own_f1 p2)), .val (.int (own_f1 p3)), .val (.int (own_f1 p4)), .val (.ref b21), .unset] [(.int v26_0)])) _
        refine XS.istore X23.here hx rfl (hb hby at_146) rfl (l' := #[.val (.int p1), .val (.int p2), .val (.int p3), .val (.int p4), .val (.int (p1 &&& (3 : Int32))), .val (.int (own_f1 p2)), .val (.int (own_f1 p3)), .val (.int (own_f1 p4)), .val (.ref b21), .val (.int v26_0)]) rfl ?_
        show Steps p.tables e below (T23.setTop (mkF m 148 #[.val (.int p1), .val (.int p2), .val (.int p3), .val (.int p4), .val (.int (p1 &&& (3 : Int32))), .val (.int (own_f1 p2)), .val (.int (own_f1 p3)), .val (.int (own_f1 p4)), .val (.ref b21), .val (.int v26_0)] [])) _
        refine XS.aload X23.here hx rfl (hb hby at_148) rfl rfl ?_
        exact kt
      obtain ⟨_, _, ⟨T28, L28, k28, n28⟩, -, X28, ⟨Lc28, hQ28, l28, y28, z28⟩, st28⟩ := Jvm.LawKit.callS X23 hx (y := (⟨own_k9, "isAscii", "([I)Z"⟩ : MethodName)) hown (mvT hZ (hw _ (List.mem_of_getElem? (i := 7) rfl))) (mvT hZ (hw _ (List.mem_of_getElem? (i := 8) rfl))) (mvT hZ (hw _ (List.mem_of_getElem? (i := 9) rfl))) (mvT hZ (hw _ (List.mem_of_getElem? (i := 10) rfl))) (by decide) (backOf (W := 0) (rm2_1 l Z a0 hw [] b21 k21 (own_f1 p2) h23 n0 Z23 V_b21_23') hZ (hw _ (List.mem_of_getElem? (i := 10) rfl)) (hw _ (List.mem_of_getElem? (i := 9) rfl)) (by decide) (by decide)) (g := (mkF m 150 #[.val (.int p1), .val (.int p2), .val (.int p3), .val (.int p4), .val (.int (p1 &&& (3 : Int32))), .val (.int (own_f1 p2)), .val (.int (own_f1 p3)), .val (.int (own_f1 p4)), .val (.ref b21), .val (.int v26_0)] [(.ref b21)])) rfl (by rw [hml]; rfl) (argsL := [(.ref b21)]) (rest := []) (lenOf pd_1 rfl) rfl (by show 2 * 0 + _ ≤ _; exact Nat.le_of_eq rfl) (hb hby at_150) (fun _ _ => ⟨rfl, e23, (by decide : 1 + 0 ≤ _), (by decide : 1 + 0 ≤ _)⟩)
      dsimp only [Pt.U, Pt.locs, Pt.cells, Pt.slots] at X28 l28 y28 z28 st28 hQ28
      subst l28 y28 z28
      obtain ⟨rfl, N28q, e28⟩ := hQ28
      have N28 := Fr.app N23 N28q
      have pre28 : ∀ t, Steps p.tables e below (T28.setTop (mkF m 153 #[.val (.int p1), .val (.int p2), .val (.int p3), .val (.int p4), .val (.int (p1 &&& (3 : Int32))), .val (.int (own_f1 p2)), .val (.int (own_f1 p3)), .val (.int (own_f1 p4)), .val (.ref b21), .val (.int v26_0)] [(.int (if (own_f1 p2) < (128 : Int32) then (1 : Int32) else (0 : Int32)))])) t → Steps p.tables e below (s₁.setTop (entryFrame m #[(.int p1), (.int p2), (.int p3), (.int p4)] maxLocals)) t := fun t kt => pre27 t (st28 _ kt)
      have pre29 : ∀ t, Steps p.tables e below (T28.setTop (mkF m 155 #[.val (.int p1), .val (.int p2), .val (.int p3), .val (.int p4), .val (.int (p1 &&& (3 : Int32))), .val (.int (own_f1 p2)), .val (.int (own_f1 p3)), .val (.int (own_f1 p4)), .val (.ref b21), .val (.int v26_0)] [(.int v26_0), (.int (if (own_f1 p2) < (128 : Int32) then (1 : Int32) else (0 : Int32)))])) t → Steps p.tables e below (s₁.setTop (entryFrame m #[(.int p1), (.int p2), (.int p3), (.int p4)] maxLocals)) t := by
        intro t kt
        refine pre28 t ?_
        show Steps p.tables e below (T28.setTop (mkF m 153 #[.val (.int p1), .val (.int p2), .val (.int p3), .val (.int p4), .val (.int (p1 &&& (3 : Int32))), .val (.int (own_f1 p2)), .val (.int (own_f1 p3)), .val (.int (own_f1 p4)), .val (.ref b21), .val (.int v26_0)] [(.int (if (own_f1 p2) < (128 : Int32) then (1 : Int32) else (0 : Int32)))])) _
        refine XS.iload X28.here hx rfl (hb hby at_153) rfl ?_
        exact kt
      obtain ⟨v30_0, hv30_0, pre30⟩ : ∃ (v30_0 : Int32), v30_0 = (if (if (own_f1 p2) < (128 : Int32) then (1 : Int32) else (0 : Int32)) = v26_0 then (1 : Int32) else (0 : Int32)) ∧ ∀ t, Steps p.tables e below (T28.setTop (mkF m 163 #[.val (.int p1), .val (.int p2), .val (.int p3), .val (.int p4), .val (.int (p1 &&& (3 : Int32))), .val (.int (own_f1 p2)), .val (.int (own_f1 p3)), .val (.int (own_f1 p4)), .val (.ref b21), .val (.int v26_0)] [(.int v30_0)])) t → Steps p.tables e below (s₁.setTop (entryFrame m #[(.int p1), (.int p2), (.int p3), (.int p4)] maxLocals)) t := by
        refine ⟨_, rfl, ?_⟩
        intro t kt
        refine pre29 t ?_
        show Steps p.tables e below (T28.setTop (mkF m 155 #[.val (.int p1), .val (.int p2), .val (.int p3), .val (.int p4), .val (.int (p1 &&& (3 : Int32))), .val (.int (own_f1 p2)), .val (.int (own_f1 p3)), .val (.int (own_f1 p4)), .val (.ref b21), .val (.int v26_0)] [(.int v26_0), (.int (if (own_f1 p2) < (128 : Int32) then (1 : Int32) else (0 : Int32)))])) _
        by_cases hc155 : (if (own_f1 p2) < (128 : Int32) then (1 : Int32) else (0 : Int32)) = v26_0
        · (try simp only [if_pos hc155] at kt)
          refine XS.icmpNo X28.here hx rfl (hb hby at_155) rfl (teq hc155).2 ?_
          show Steps p.tables e below (T28.setTop (mkF m 158 #[.val (.int p1), .val (.int p2), .val (.int p3), .val (.int p4), .val (.int (p1 &&& (3 : Int32))), .val (.int (own_f1 p2)), .val (.int (own_f1 p3)), .val (.int (own_f1 p4)), .val (.ref b21), .val (.int v26_0)] [])) _
          refine XS.iconst X28.here hx rfl (hb hby at_158) ?_
          show Steps p.tables e below (T28.setTop (mkF m 159 #[.val (.int p1), .val (.int p2), .val (.int p3), .val (.int p4), .val (.int (p1 &&& (3 : Int32))), .val (.int (own_f1 p2)), .val (.int (own_f1 p3)), .val (.int (own_f1 p4)), .val (.ref b21), .val (.int v26_0)] [(.int (1 : Int32))])) _
          refine XS.goto X28.here hx rfl (pc0 := 159) (pc' := 163) rfl (hb hby at_159) (by decide) (by decide) ?_
          exact kt
        · (try simp only [if_neg hc155] at kt)
          refine XS.icmpYes X28.here hx rfl (pc0 := 155) (pc' := 162) rfl (hb hby at_155) rfl (feq hc155).2 (by decide) (by decide) ?_
          show Steps p.tables e below (T28.setTop (mkF m 162 #[.val (.int p1), .val (.int p2), .val (.int p3), .val (.int p4), .val (.int (p1 &&& (3 : Int32))), .val (.int (own_f1 p2)), .val (.int (own_f1 p3)), .val (.int (own_f1 p4)), .val (.ref b21), .val (.int v26_0)] [])) _
          refine XS.iconst X28.here hx rfl (hb hby at_162) ?_
          exact kt
      have hfin : v30_0 = 1 := by
        have hn : (p1 &&& (3 : Int32)) = 1 := hc39
        simp only [hv30_0, hv26_0, hn]
        by_cases ha : (own_f1 p2) < (128 : Int32) <;> by_cases hb : (own_f1 p3) < (128 : Int32) <;> by_cases hc : (own_f1 p4) < (128 : Int32) <;> simp [ha, hb, hc]
      obtain ⟨fs, hr, hrun, hended, hW, hsame⟩ := X28.leave (v := some (.int (1 : Int32))) (fun h => by rw [Bd.returns] at h; cases h)
      refine ⟨_, _, pre30 _ ?_, hrun, hended, _, _, rfl, ?_, ⟨_, rfl⟩, hW, hsame.mono (by decide) (by decide)⟩
      · show Steps p.tables e below (T28.setTop (mkF m 163 #[.val (.int p1), .val (.int p2), .val (.int p3), .val (.int p4), .val (.int (p1 &&& (3 : Int32))), .val (.int (own_f1 p2)), .val (.int (own_f1 p3)), .val (.int (own_f1 p4)), .val (.ref b21), .val (.int v26_0)] [(.int v30_0)])) _
        rw [hfin]
        exact retN X28 hx (t := .boolean) Bd.returns (by simp) (hb hby at_163) hr
      · show Q0 n0 _ T28.heap _
        rw [e28]
        exact ⟨rfl, N28⟩
    · have pre31 : ∀ t, Steps p.tables e below (T6.setTop (mkF m 55 #[.val (.int p1), .val (.int p2), .val (.int p3), .val (.int p4), .val (.int (p1 &&& (3 : Int32))), .val (.int (own_f1 p2)), .val (.int (own_f1 p3)), .val (.int (own_f1 p4)), .unset, .unset] [])) t → Steps p.tables e below (s₁.setTop (entryFrame m #[(.int p1), (.int p2), (.int p3), (.int p4)] maxLocals)) t := by
        intro t kt
        refine pre18 t ?_
        show Steps p.tables e below (T6.setTop (mkF m 39 #[.val (.int p1), .val (.int p2), .val (.int p3), .val (.int p4), .val (.int (p1 &&& (3 : Int32))), .val (.int (own_f1 p2)), .val (.int (own_f1 p3)), .val (.int (own_f1 p4)), .unset, .unset] [(.int (1 : Int32)), (.int (p1 &&& (3 : Int32)))])) _
        refine XS.icmpYes X6.here hx rfl (pc0 := 39) (pc' := 55) rfl (hb hby at_39) rfl (feq hc39).2 (by decide) (by decide) ?_
        exact kt
      have pre32 : ∀ t, Steps p.tables e below (T6.setTop (mkF m 58 #[.val (.int p1), .val (.int p2), .val (.int p3), .val (.int p4), .val (.int (p1 &&& (3 : Int32))), .val (.int (own_f1 p2)), .val (.int (own_f1 p3)), .val (.int (own_f1 p4)), .unset, .unset] [(.int (2 : Int32)), (.int (p1 &&& (3 : Int32)))])) t → Steps p.tables e below (s₁.setTop (entryFrame m #[(.int p1), (.int p2), (.int p3), (.int p4)] maxLocals)) t := by
        intro t kt
        refine pre31 t ?_
        show Steps p.tables e below (T6.setTop (mkF m 55 #[.val (.int p1), .val (.int p2), .val (.int p3), .val (.int p4), .val (.int (p1 &&& (3 : Int32))), .val (.int (own_f1 p2)), .val (.int (own_f1 p3)), .val (.int (own_f1 p4)), .unset, .unset] [])) _
        refine XS.iload X6.here hx rfl (hb hby at_55) rfl ?_
        show Steps p.tables e below (T6.setTop (mkF m 57 #[.val (.int p1), .val (.int p2), .val (.int p3), .val (.int p4), .val (.int (p1 &&& (3 : Int32))), .val (.int (own_f1 p2)), .val (.int (own_f1 p3)), .val (.int (own_f1 p4)), .unset, .unset] [(.int (p1 &&& (3 : Int32)))])) _
        refine XS.iconst X6.here hx rfl (hb hby at_57) ?_
        exact kt
      by_cases hc58 : (p1 &&& (3 : Int32)) = (2 : Int32)
      · have pre33 : ∀ t, Steps p.tables e below (T6.setTop (mkF m 61 #[.val (.int p1), .val (.int p2), .val (.int p3), .val (.int p4), .val (.int (p1 &&& (3 : Int32))), .val (.int (own_f1 p2)), .val (.int (own_f1 p3)), .val (.int (own_f1 p4)), .unset, .unset] [])) t → Steps p.tables e below (s₁.setTop (entryFrame m #[(.int p1), (.int p2), (.int p3), (.int p4)] maxLocals)) t := by
          intro t kt
          refine pre32 t ?_
          show Steps p.tables e below (T6.setTop (mkF m 58 #[.val (.int p1), .val (.int p2), .val (.int p3), .val (.int p4), .val (.int (p1 &&& (3 : Int32))), .val (.int (own_f1 p2)), .val (.int (own_f1 p3)), .val (.int (own_f1 p4)), .unset, .unset] [(.int (2 : Int32)), (.int (p1 &&& (3 : Int32)))])) _
          refine XS.icmpNo X6.here hx rfl (hb hby at_58) rfl (teq hc58).2 ?_
          exact kt
        have pre34 : ∀ t, Steps p.tables e below (T6.setTop (mkF m 62 #[.val (.int p1), .val (.int p2), .val (.int p3), .val (.int p4), .val (.int (p1 &&& (3 : Int32))), .val (.int (own_f1 p2)), .val (.int (own_f1 p3)), .val (.int (own_f1 p4)), .unset, .unset] [(.int (2 : Int32))])) t → Steps p.tables e below (s₁.setTop (entryFrame m #[(.int p1), (.int p2), (.int p3), (.int p4)] maxLocals)) t := by
          intro t kt
          refine pre33 t ?_
          show Steps p.tables e below (T6.setTop (mkF m 61 #[.val (.int p1), .val (.int p2), .val (.int p3), .val (.int p4), .val (.int (p1 &&& (3 : Int32))), .val (.int (own_f1 p2)), .val (.int (own_f1 p3)), .val (.int (own_f1 p4)), .unset, .unset] [])) _
          refine XS.iconst X6.here hx rfl (hb hby at_61) ?_
          exact kt
        obtain ⟨T35, h35, k35, X35, e35, E35, A35, st35⟩ := newP X6 hx hZ (hw _ (List.mem_of_getElem? (i := 6) rfl)) e6 (g := (mkF m 62 #[.val (.int p1), .val (.int p2), .val (.int p3), .val (.int p4), .val (.int (p1 &&& (3 : Int32))), .val (.int (own_f1 p2)), .val (.int (own_f1 p3)), .val (.int (own_f1 p4)), .unset, .unset] [(.int (2 : Int32))])) rfl (hb hby at_62) rfl (by decide) (cap := 2) (by decide) (by decide) (by decide) (by decide)
        obtain ⟨b35, g35⟩ : ∃ z, z = h0.size := ⟨_, rfl⟩
        have g_b35 : n0 ≤ b35 := Nat.le_trans Z0 (Nat.le_of_eq g35.symm)
        have sz_b35 : h0.size ≤ b35 := Nat.le_trans (Keep.refl h0 []).1 (Nat.le_of_eq g35.symm)
        rw [← g35] at A35 st35
        have K35 : Keep h0 h35 [] := (Keep.refl h0 []).ext E35
        have Z35 : n0 ≤ h35.size := Nat.le_trans Z0 E35.1
        have V_b35 : Arv Z h35 b35 k35 .int (2 : Int32) [(.int (0 : Int32)), (.int (0 : Int32))] (.int (0 : Int32)) := (Arv.new A35 (by decide)).pad (pad_rep [] (.int (0 : Int32)) 2)
        have pre35 : ∀ t, Steps p.tables e below (T35.setTop (mkF m 64 #[.val (.int p1), .val (.int p2), .val (.int p3), .val (.int p4), .val (.int (p1 &&& (3 : Int32))), .val (.int (own_f1 p2)), .val (.int (own_f1 p3)), .val (.int (own_f1 p4)), .unset, .unset] [(.ref b35)])) t → Steps p.tables e below (s₁.setTop (entryFrame m #[(.int p1), (.int p2), (.int p3), (.int p4)] maxLocals)) t := fun t kt => pre34 t (st35 _ kt)
        have pre36 : ∀ t, Steps p.tables e below (T35.setTop (mkF m 68 #[.val (.int p1), .val (.int p2), .val (.int p3), .val (.int p4), .val (.int (p1 &&& (3 : Int32))), .val (.int (own_f1 p2)), .val (.int (own_f1 p3)), .val (.int (own_f1 p4)), .unset, .unset] [(.int (own_f1 p2)), (.int (0 : Int32)), (.ref b35), (.ref b35)])) t → Steps p.tables e below (s₁.setTop (entryFrame m #[(.int p1), (.int p2), (.int p3), (.int p4)] maxLocals)) t := by
          intro t kt
          refine pre35 t ?_
          show Steps p.tables e below (T35.setTop (mkF m 64 #[.val (.int p1), .val (.int p2), .val (.int p3), .val (.int p4), .val (.int (p1 &&& (3 : Int32))), .val (.int (own_f1 p2)), .val (.int (own_f1 p3)), .val (.int (own_f1 p4)), .unset, .unset] [(.ref b35)])) _
          refine XS.dup X35.here hx rfl (hb hby at_64) rfl rfl ?_
          show Steps p.tables e below (T35.setTop (mkF m 65 #[.val (.int p1), .val (.int p2), .val (.int p3), .val (.int p4), .val (.int (p1 &&& (3 : Int32))), .val (.int (own_f1 p2)), .val (.int (own_f1 p3)), .val (.int (own_f1 p4)), .unset, .unset] [(.ref b35), (.ref b35)])) _
          refine XS.iconst X35.here hx rfl (hb hby at_65) ?_
          show Steps p.tables e below (T35.setTop (mkF m 66 #[.val (.int p1), .val (.int p2), .val (.int p3), .val (.int p4), .val (.int (p1 &&& (3 : Int32))), .val (.int (own_f1 p2)), .val (.int (own_f1 p3)), .val (.int (own_f1 p4)), .unset, .unset] [(.int (0 : Int32)), (.ref b35), (.ref b35)])) _
          refine XS.iload X35.here hx rfl (hb hby at_66) rfl ?_
          exact kt
        obtain ⟨cl37, Ar37, q37, S37, M37, H37, G37⟩ := (id V_b35)
        have hin37 : ¬ ((0 : Int32) < 0 ∨ cl37.slots.size ≤ ((0 : Int32)).toNatClampNeg) := inb_of S37 ⟨by decide, by decide⟩
        obtain ⟨T37, h37, X37, e37, W37, st37⟩ := stI X35 hx hZ e35 Ar37 (j := (0 : Int32)) hin37 (g := (mkF m 68 #[.val (.int p1), .val (.int p2), .val (.int p3), .val (.int p4), .val (.int (p1 &&& (3 : Int32))), .val (.int (own_f1 p2)), .val (.int (own_f1 p3)), .val (.int (own_f1 p4)), .unset, .unset] [(.int (own_f1 p2)), (.int (0 : Int32)), (.ref b35), (.ref b35)])) rfl rfl (hb hby at_68)
        have V_b35_37 := Arv.set Ar37 q37 S37 M37 H37 G37 rfl W37 0 rfl (Nat.le_of_ble_eq_true rfl)
        have N37 := Fr.snoc X37 N6 g_b35
        have K37 : Keep h0 h37 [] := K35.wr W37 (Or.inr sz_b35)
        have Z37 : n0 ≤ h37.size := Nat.le_trans Z35 (Keep.of_wr W37).1
        have V_b35_37' : Arv Z h37 b35 k35 .int (2 : Int32) [(.int (own_f1 p2)), (.int (0 : Int32))] (.int (0 : Int32)) := V_b35_37
        have pre37 : ∀ t, Steps p.tables e below (T37.setTop (mkF m 69 #[.val (.int p1), .val (.int p2), .val (.int p3), .val (.int p4), .val (.int (p1 &&& (3 : Int32))), .val (.int (own_f1 p2)), .val (.int (own_f1 p3)), .val (.int (own_f1 p4)), .unset, .unset] [(.ref b35)])) t → Steps p.tables e below (s₁.setTop (entryFrame m #[(.int p1), (.int p2), (.int p3), (.int p4)] maxLocals)) t := fun t kt => pre36 t (st37 _ kt)
        have pre39 : ∀ t, Steps p.tables e below (T37.setTop (mkF m 73 #[.val (.int p1), .val (.int p2), .val (.int p3), .val (.int p4), .val (.int (p1 &&& (3 : Int32))), .val (.int (own_f1 p2)), .val (.int (own_f1 p3)), .val (.int (own_f1 p4)), .unset, .unset] [(.int (own_f1 p3)), (.int (1 : Int32)), (.ref b35), (.ref b35)])) t → Steps p.tables e below (s₁.setTop (entryFrame m #[(.int p1), (.int p2), (.int p3), (.int p4)] maxLocals)) t := by
          intro t kt
          refine pre37 t ?_
          show Steps p.tables e below (T37.setTop (mkF m 69 #[.val (.int p1), .val (.int p2), .val (.int p3), .val (.int p4), .val (.int (p1 &&& (3 : Int32))), .val (.int (own_f1 p2)), .val (.int (own_f1 p3)), .val (.int (own_f1 p4)), .unset, .unset] [(.ref b35)])) _
          refine XS.dup X37.here hx rfl (hb hby at_69) rfl rfl ?_
          show Steps p.tables e below (T37.setTop (mkF m 70 #[.val (.int p1), .val (.int p2), .val (.int p3), .val (.int p4), .val (.int (p1 &&& (3 : Int32))), .val (.int (own_f1 p2)), .val (.int (own_f1 p3)), .val (.int (own_f1 p4)), .unset, .unset] [(.ref b35), (.ref b35)])) _
          refine XS.iconst X37.here hx rfl (hb hby at_70) ?_
          show Steps p.tables e below (T37.setTop (mkF m 71 #[.val (.int p1), .val (.int p2), .val (.int p3), .val (.int p4), .val (.int (p1 &&& (3 : Int32))), .val (.int (own_f1 p2)), .val (.int (own_f1 p3)), .val (.int (own_f1 p4)), .unset, .unset] [(.int (1 : Int32)), (.ref b35), (.ref b35)])) _
          refine XS.iload X37.here hx rfl (hb hby at_71) rfl ?_
          exact kt
        obtain ⟨cl40, Ar40, q40, S40, M40, H40, G40⟩ := (id V_b35_37')
        have hin40 : ¬ ((1 : Int32) < 0 ∨ cl40.slots.size ≤ ((1 : Int32)).toNatClampNeg) := inb_of S40 ⟨by decide, by decide⟩
        obtain ⟨T40, h40, X40, e40, W40, st40⟩ := stI X37 hx hZ e37 Ar40 (j := (1 : Int32)) hin40 (g := (mkF m 73 #[.val (.int p1), .val (.int p2), .val (.int p3), .val (.int p4), .val (.int (p1 &&& (3 : Int32))), .val (.int (own_f1 p2)), .val (.int (own_f1 p3)), .val (.int (own_f1 p4)), .unset, .unset] [(.int (own_f1 p3)), (.int (1 : Int32)), (.ref b35), (.ref b35)])) rfl rfl (hb hby at_73)
        have V_b35_40 := Arv.set Ar40 q40 S40 M40 H40 G40 rfl W40 1 rfl (Nat.le_of_ble_eq_true rfl)
        have N40 := Fr.snoc X40 N37 g_b35
        have K40 : Keep h0 h40 [] := K37.wr W40 (Or.inr sz_b35)
        have Z40 : n0 ≤ h40.size := Nat.le_trans Z37 (Keep.of_wr W40).1
        have V_b35_40' : Arv Z h40 b35 k35 .int (2 : Int32) [(.int (own_f1 p2)), (.int (own_f1 p3))] (.int (0 : Int32)) := V_b35_40
        have pre40 : ∀ t, Steps p.tables e below (T40.setTop (mkF m 74 #[.val (.int p1), .val (.int p2), .val (.int p3), .val (.int p4), .val (.int (p1 &&& (3 : Int32))), .val (.int (own_f1 p2)), .val (.int (own_f1 p3)), .val (.int (own_f1 p4)), .unset, .unset] [(.ref b35)])) t → Steps p.tables e below (s₁.setTop (entryFrame m #[(.int p1), (.int p2), (.int p3), (.int p4)] maxLocals)) t := fun t kt => pre39 t (st40 _ kt)
        have pre42 : ∀ t, Steps p.tables e below (T40.setTop (mkF m 102 #[.val (.int p1), .val (.int p2), .val (.int p3), .val (.int p4), .val (.int (p1 &&& (3 : Int32))), .val (.int (own_f1 p2)), .val (.int (own_f1 p3)), .val (.int (own_f1 p4)), .val (.ref b35), .unset] [(.int (1 : Int32)), (.int (p1 &&& (3 : Int32)))])) t → Steps p.tables e below (s₁.setTop (entryFrame m #[(.int p1), (.int p2), (.int p3), (.int p4)] maxLocals)) t := by
          intro t kt
          refine pre40 t ?_
          show Steps p.tables e below (T40.setTop (mkF m 74 #[.val (.int p1), .val (.int p2), .val (.int p3), .val (.int p4), .val (.int (p1 &&& (3 : Int32))), .val (.int (own_f1 p2)), .val (.int (own_f1 p3)), .val (.int (own_f1 p4)), .unset, .unset] [(.ref b35)])) _
          refine XS.astore X40.here hx rfl (hb hby at_74) rfl rfl (l' := #[.val (.int p1), .val (.int p2), .val (.int p3), .val (.int p4), .val (.int (p1 &&& (3 : Int32))), .val (.int (own_f1 p2)), .val (.int (own_f1 p3)), .val (.int (own_f1 p4)), .val (.ref b35), .unset]) rfl ?_
          show Steps p.tables e below (T40.setTop (mkF m 76 #[.val (.int p1), .val (.int p2), .val (.int p3), .val (.int p4), .val (.int (p1 &&& (3 : Int32))), .val (.int (own_f1 p2)), .val (.int (own_f1 p3)), .val (.int (own_f1 p4)), .val (.ref b35), .unset] [])) _
          refine XS.goto X40.here hx rfl (pc0 := 76) (pc' := 99) rfl (hb hby at_76) (by decide) (by decide) ?_
          show Steps p.tables e below (T40.setTop (mkF m 99 #[.val (.int p1), .val (.int p2), .val (.int p3), .val (.int p4), .val (.int (p1 &&& (3 : Int32))), .val (.int (own_f1 p2)), .val (.int (own_f1 p3)), .val (.int (own_f1 p4)), .val (.ref b35), .unset] [])) _
          refine XS.iload X40.here hx rfl (hb hby at_99) rfl ?_
          show Steps p.tables e below (T40.setTop (mkF m 101 #[.val (.int p1), .val (.int p2), .val (.int p3), .val (.int p4), .val (.int (p1 &&& (3 : Int32))), .val (.int (own_f1 p2)), .val (.int (own_f1 p3)), .val (.int (own_f1 p4)), .val (.ref b35), .unset] [(.int (p1 &&& (3 : Int32)))])) _
          refine XS.iconst X40.here hx rfl (hb hby at_101) ?_
          exact kt
        obtain ⟨v43_0, hv43_0, pre43⟩ : ∃ (v43_0 : Int32), v43_0 = (if (p1 &&& (3 : Int32)) < (1 : Int32) then (if (p1 &&& (3 : Int32)) < (2 : Int32) then (if (p1 &&& (3 : Int32)) < (3 : Int32) then (1 : Int32) else (if (own_f1 p4) < (128 : Int32) then (1 : Int32) else (0 : Int32))) else (if (own_f1 p3) < (128 : Int32) then (if (p1 &&& (3 : Int32)) < (3 : Int32) then (1 : Int32) else (if (own_f1 p4) < (128 : Int32) then (1 : Int32) else (0 : Int32))) else (0 : Int32))) else (if (own_f1 p2) < (128 : Int32) then (if (p1 &&& (3 : Int32)) < (2 : Int32) then (if (p1 &&& (3 : Int32)) < (3 : Int32) then (1 : Int32) else (if (own_f1 p4) < (128 : Int32) then (1 : Int32) else (0 : Int32))) else (if (own_f1 p3) < (128 : Int32) then (if (p1 &&& (3 : Int32)) < (3 : Int32) then (1 : Int32) else (if (own_f1 p4) < (128 : Int32) then (1 : Int32) else (0 : Int32))) else (0 : Int32))) else (0 : Int32))) ∧ ∀ t, Steps p.tables e below (T40.setTop (mkF m 146 #[.val (.int p1), .val (.int p2), .val (.int p3), .val (.int p4), .val (.int (p1 &&& (3 : Int32))), .val (.int (own_f1 p2)), .val (.int (own_f1 p3)), .val (.int (own_f1 p4)), .val (.ref b35), .unset] [(.int v43_0)])) t → Steps p.tables e below (s₁.setTop (entryFrame m #[(.int p1), (.int p2), (.int p3), (.int p4)] maxLocals)) t := by
          refine ⟨_, rfl, ?_⟩
          intro t kt
          refine pre42 t ?_
          show Steps p.tables e below (T40.setTop (mkF m 102 #[.val (.int p1), .val (.int p2), .val (.int p3), .val (.int p4), .val (.int (p1 &&& (3 : Int32))), .val (.int (own_f1 p2)), .val (.int (own_f1 p3)), .val (.int (own_f1 p4)), .val (.ref b35), .unset] [(.int (1 : Int32)), (.int (p1 &&& (3 : Int32)))])) _
          by_cases hc102 : (p1 &&& (3 : Int32)) < (1 : Int32)
          · (try simp only [if_pos hc102] at kt)
            refine XS.icmpYes X40.here hx rfl (pc0 := 102) (pc' := 113) rfl (hb hby at_102) rfl (tlt hc102).1 (by decide) (by decide) ?_
            show Steps p.tables e below (T40.setTop (mkF m 113 #[.val (.int p1), .val (.int p2), .val (.int p3), .val (.int p4), .val (.int (p1 &&& (3 : Int32))), .val (.int (own_f1 p2)), .val (.int (own_f1 p3)), .val (.int (own_f1 p4)), .val (.ref b35), .unset] [])) _
            refine XS.iload X40.here hx rfl (hb hby at_113) rfl ?_
            show Steps p.tables e below (T40.setTop (mkF m 115 #[.val (.int p1), .val (.int p2), .val (.int p3), .val (.int p4), .val (.int (p1 &&& (3 : Int32))), .val (.int (own_f1 p2)), .val (.int (own_f1 p3)), .val (.int (own_f1 p4)), .val (.ref b35), .unset] [(.int (p1 &&& (3 : Int32)))])) _
            refine XS.iconst X40.here hx rfl (hb hby at_115) ?_
            show Steps p.tables e below (T40.setTop (mkF m 116 #[.val (.int p1), .val (.int p2), .val (.int p3), .val (.int p4), .val (.int (p1 &&& (3 : Int32))), .val (.int (own_f1 p2)), .val (.int (own_f1 p3)), .val (.int (own_f1 p4)), .val (.ref b35), .unset] [(.int (2 : Int32)), (.int (p1 &&& (3 : Int32)))])) _
            by_cases hc116 : (p1 &&& (3 : Int32)) < (2 : Int32)
            · (try simp only [if_pos hc116] at kt)
              refine XS.icmpYes X40.here hx rfl (pc0 := 116) (pc' := 127) rfl (hb hby at_116) rfl (tlt hc116).1 (by decide) (by decide) ?_
              show Steps p.tables e below (T40.setTop (mkF m 127 #[.val (.int p1), .val (.int p2), .val (.int p3), .val (.int p4), .val (.int (p1 &&& (3 : Int32))), .val (.int (own_f1 p2)), .val (.int (own_f1 p3)), .val (.int (own_f1 p4)), .val (.ref b35), .unset] [])) _
              refine XS.iload X40.here hx rfl (hb hby at_127) rfl ?_
              show Steps p.tables e below (T40.setTop (mkF m 129 #[.val (.int p1), .val (.int p2), .val (.int p3), .val (.int p4), .val (.int (p1 &&& (3 : Int32))), .val (.int (own_f1 p2)), .val (.int (own_f1 p3)), .val (.int (own_f1 p4)), .val (.ref b35), .unset] [(.int (p1 &&& (3 : Int32)))])) _
              refine XS.iconst X40.here hx rfl (hb hby at_129) ?_
              show Steps p.tables e below (T40.setTop (mkF m 130 #[.val (.int p1), .val (.int p2), .val (.int p3), .val (.int p4), .val (.int (p1 &&& (3 : Int32))), .val (.int (own_f1 p2)), .val (.int (own_f1 p3)), .val (.int (own_f1 p4)), .val (.ref b35), .unset] [(.int (3 : Int32)), (.int (p1 &&& (3 : Int32)))])) _
              by_cases hc130 : (p1 &&& (3 : Int32)) < (3 : Int32)
              · (try simp only [if_pos hc130] at kt)
                refine XS.icmpYes X40.here hx rfl (pc0 := 130) (pc' := 141) rfl (hb hby at_130) rfl (tlt hc130).1 (by decide) (by decide) ?_
                show Steps p.tables e below (T40.setTop (mkF m 141 #[.val (.int p1), .val (.int p2), .val (.int p3), .val (.int p4), .val (.int (p1 &&& (3 : Int32))), .val (.int (own_f1 p2)), .val (.int (own_f1 p3)), .val (.int (own_f1 p4)), .val (.ref b35), .unset] [])) _
                refine XS.iconst X40.here hx rfl (hb hby at_141) ?_
                show Steps p.tables e below (T40.setTop (mkF m 142 #[.val (.int p1), .val (.int p2), .val (.int p3), .val (.int p4), .val (.int (p1 &&& (3 : Int32))), .val (.int (own_f1 p2)), .val (.int (own_f1 p3)), .val (.int (own_f1 p4)), .val (.ref b35), .unset] [(.int (1 : Int32))])) _
                refine XS.goto X40.here hx rfl (pc0 := 142) (pc' := 146) rfl (hb hby at_142) (by decide) (by decide) ?_
                exact kt
              · (try simp only [if_neg hc130] at kt)
                refine XS.icmpNo X40.here hx rfl (hb hby at_130) rfl (flt hc130).1 ?_
                show Steps p.tables e below (T40.setTop (mkF m 133 #[.val (.int p1), .val (.int p2), .val (.int p3), .val (.int p4), .val (.int (p1 &&& (3 : Int32))), .val (.int (own_f1 p2)), .val (.int (own_f1 p3)), .val (.int (own_f1 p4)), .val (.ref b35), .unset] [])) _
                refine XS.iload X40.here hx rfl (hb hby at_133) rfl ?_
                show Steps p.tables e below (T40.setTop (mkF m 135 #[.val (.int p1), .val (.int p2), .val (.int p3), .val (.int p4), .val (.int (p1 &&& (3 : Int32))), .val (.int (own_f1 p2)), .val (.int (own_f1 p3)), .val (.int (own_f1 p4)), .val (.ref b35), .unset] [(.int (own_f1 p4))])) _
                refine XS.sipush X40.here hx rfl (hb hby at_135) ?_
                show Steps p.tables e below (T40.setTop (mkF m 138 #[.val (.int p1), .val (.int p2), .val (.int p3), .val (.int p4), .val (.int (p1 &&& (3 : Int32))), .val (.int (own_f1 p2)), .val (.int (own_f1 p3)), .val (.int (own_f1 p4)), .val (.ref b35), .unset] [(.int (128 : Int32)), (.int (own_f1 p4))])) _
                by_cases hc138 : (own_f1 p4) < (128 : Int32)
                · (try simp only [if_pos hc138] at kt)
                  refine XS.icmpNo X40.here hx rfl (hb hby at_138) rfl (tlt hc138).2.1 ?_
                  show Steps p.tables e below (T40.setTop (mkF m 141 #[.val (.int p1), .val (.int p2), .val (.int p3), .val (.int p4), .val (.int (p1 &&& (3 : Int32))), .val (.int (own_f1 p2)), .val (.int (own_f1 p3)), .val (.int (own_f1 p4)), .val (.ref b35), .unset] [])) _
                  refine XS.iconst X40.here hx rfl (hb hby at_141) ?_
                  show Steps p.tables e below (T40.setTop (mkF m 142 #[.val (.int p1), .val (.int p2), .val (.int p3), .val (.int p4), .val (.int (p1 &&& (3 : Int32))), .val (.int (own_f1 p2)), .val (.int (own_f1 p3)), .val (.int (own_f1 p4)), .val (.ref b35), .unset] [(.int (1 : Int32))])) _
                  refine XS.goto X40.here hx rfl (pc0 := 142) (pc' := 146) rfl (hb hby at_142) (by decide) (by decide) ?_
                  exact kt
                · (try simp only [if_neg hc138] at kt)
                  refine XS.icmpYes X40.here hx rfl (pc0 := 138) (pc' := 145) rfl (hb hby at_138) rfl (flt hc138).2.1 (by decide) (by decide) ?_
                  show Steps p.tables e below (T40.setTop (mkF m 145 #[.val (.int p1), .val (.int p2), .val (.int p3), .val (.int p4), .val (.int (p1 &&& (3 : Int32))), .val (.int (own_f1 p2)), .val (.int (own_f1 p3)), .val (.int (own_f1 p4)), .val (.ref b35), .unset] [])) _
                  refine XS.iconst X40.here hx rfl (hb hby at_145) ?_
                  exact kt
            · (try simp only [if_neg hc116] at kt)
              refine XS.icmpNo X40.here hx rfl (hb hby at_116) rfl (flt hc116).1 ?_
              show Steps p.tables e below (T40.setTop (mkF m 119 #[.val (.int p1), .val (.int p2), .val (.int p3), .val (.int p4), .val (.int (p1 &&& (3 : Int32))), .val (.int (own_f1 p2)), .val (.int (own_f1 p3)), .val (.int (own_f1 p4)), .val (.ref b35), .unset] [])) _
              refine XS.iload X40.here hx rfl (hb hby at_119) rfl ?_
              show Steps p.tables e below (T40.setTop (mkF m 121 #[.val (.int p1), .val (.int p2), .val (.int p3), .val (.int p4), .val (.int (p1 &&& (3 : Int32))), .val (.int (own_f1 p2)), .val (.int (own_f1 p3)), .val (.int (own_f1 p4)), .val (.ref b35), .unset] [(.int (own_f1 p3))])) _
              refine XS.sipush X40.here hx rfl (hb hby at_121) ?_
              show Steps p.tables e below (T40.setTop (mkF m 124 #[.val (.int p1), .val (.int p2), .val (.int p3), .val (.int p4), .val (.int (p1 &&& (3 : Int32))), .val (.int (own_f1 p2)), .val (.int (own_f1 p3)), .val (.int (own_f1 p4)), .val (.ref b35), .unset] [(.int (128 : Int32)), (.int (own_f1 p3))])) _
              by_cases hc124 : (own_f1 p3) < (128 : Int32)
              · (try simp only [if_pos hc124] at kt)
                refine XS.icmpNo X40.here hx rfl (hb hby at_124) rfl (tlt hc124).2.1 ?_
                show Steps p.tables e below (T40.setTop (mkF m 127 #[.val (.int p1), .val (.int p2), .val (.int p3), .val (.int p4), .val (.int (p1 &&& (3 : Int32))), .val (.int (own_f1 p2)), .val (.int (own_f1 p3)), .val (.int (own_f1 p4)), .val (.ref b35), .unset] [])) _
                refine XS.iload X40.here hx rfl (hb hby at_127) rfl ?_
                show Steps p.tables e below (T40.setTop (mkF m 129 #[.val (.int p1), .val (.int p2), .val (.int p3), .val (.int p4), .val (.int (p1 &&& (3 : Int32))), .val (.int (own_f1 p2)), .val (.int (own_f1 p3)), .val (.int (own_f1 p4)), .val (.ref b35), .unset] [(.int (p1 &&& (3 : Int32)))])) _
                refine XS.iconst X40.here hx rfl (hb hby at_129) ?_
                show Steps p.tables e below (T40.setTop (mkF m 130 #[.val (.int p1), .val (.int p2), .val (.int p3), .val (.int p4), .val (.int (p1 &&& (3 : Int32))), .val (.int (own_f1 p2)), .val (.int (own_f1 p3)), .val (.int (own_f1 p4)), .val (.ref b35), .unset] [(.int (3 : Int32)), (.int (p1 &&& (3 : Int32)))])) _
                by_cases hc130 : (p1 &&& (3 : Int32)) < (3 : Int32)
                · (try simp only [if_pos hc130] at kt)
                  refine XS.icmpYes X40.here hx rfl (pc0 := 130) (pc' := 141) rfl (hb hby at_130) rfl (tlt hc130).1 (by decide) (by decide) ?_
                  show Steps p.tables e below (T40.setTop (mkF m 141 #[.val (.int p1), .val (.int p2), .val (.int p3), .val (.int p4), .val (.int (p1 &&& (3 : Int32))), .val (.int (own_f1 p2)), .val (.int (own_f1 p3)), .val (.int (own_f1 p4)), .val (.ref b35), .unset] [])) _
                  refine XS.iconst X40.here hx rfl (hb hby at_141) ?_
                  show Steps p.tables e below (T40.setTop (mkF m 142 #[.val (.int p1), .val (.int p2), .val (.int p3), .val (.int p4), .val (.int (p1 &&& (3 : Int32))), .val (.int (own_f1 p2)), .val (.int (own_f1 p3)), .val (.int (own_f1 p4)), .val (.ref b35), .unset] [(.int (1 : Int32))])) _
                  refine XS.goto X40.here hx rfl (pc0 := 142) (pc' := 146) rfl (hb hby at_142) (by decide) (by decide) ?_
                  exact kt
                · (try simp only [if_neg hc130] at kt)
                  refine XS.icmpNo X40.here hx rfl (hb hby at_130) rfl (flt hc130).1 ?_
                  show Steps p.tables e below (T40.setTop (mkF m 133 #[.val (.int p1), .val (.int p2), .val (.int p3), .val (.int p4), .val (.int (p1 &&& (3 : Int32))), .val (.int (own_f1 p2)), .val (.int (own_f1 p3)), .val (.int (own_f1 p4)), .val (.ref b35), .unset] [])) _
                  refine XS.iload X40.here hx rfl (hb hby at_133) rfl ?_
                  show Steps p.tables e below (T40.setTop (mkF m 135 #[.val (.int p1), .val (.int p2), .val (.int p3), .val (.int p4), .val (.int (p1 &&& (3 : Int32))), .val (.int (own_f1 p2)), .val (.int (own_f1 p3)), .val (.int (own_f1 p4)), .val (.ref b35), .unset] [(.int (own_f1 p4))])) _
                  refine XS.sipush X40.here hx rfl (hb hby at_135) ?_
                  show Steps p.tables e below (T40.setTop (mkF m 138 #[.val (.int p1), .val (.int p2), .val (.int p3), .val (.int p4), .val (.int (p1 &&& (3 : Int32))), .val (.int (own_f1 p2)), .val (.int (own_f1 p3)), .val (.int (own_f1 p4)), .val (.ref b35), .unset] [(.int (128 : Int32)), (.int (own_f1 p4))])) _
                  by_cases hc138 : (own_f1 p4) < (128 : Int32)
                  · (try simp only [if_pos hc138] at kt)
                    refine XS.icmpNo X40.here hx rfl (hb hby at_138) rfl (tlt hc138).2.1 ?_
                    show Steps p.tables e below (T40.setTop (mkF m 141 #[.val (.int p1), .val (.int p2), .val (.int p3), .val (.int p4), .val (.int (p1 &&& (3 : Int32))), .val (.int (own_f1 p2)), .val (.int (own_f1 p3)), .val (.int (own_f1 p4)), .val (.ref b35), .unset] [])) _
                    refine XS.iconst X40.here hx rfl (hb hby at_141) ?_
                    show Steps p.tables e below (T40.setTop (mkF m 142 #[.val (.int p1), .val (.int p2), .val (.int p3), .val (.int p4), .val (.int (p1 &&& (3 : Int32))), .val (.int (own_f1 p2)), .val (.int (own_f1 p3)), .val (.int (own_f1 p4)), .val (.ref b35), .unset] [(.int (1 : Int32))])) _
                    refine XS.goto X40.here hx rfl (pc0 := 142) (pc' := 146) rfl (hb hby at_142) (by decide) (by decide) ?_
                    exact kt
                  · (try simp only [if_neg hc138] at kt)
                    refine XS.icmpYes X40.here hx rfl (pc0 := 138) (pc' := 145) rfl (hb hby at_138) rfl (flt hc138).2.1 (by decide) (by decide) ?_
                    show Steps p.tables e below (T40.setTop (mkF m 145 #[.val (.int p1), .val (.int p2), .val (.int p3), .val (.int p4), .val (.int (p1 &&& (3 : Int32))), .val (.int (own_f1 p2)), .val (.int (own_f1 p3)), .val (.int (own_f1 p4)), .val (.ref b35), .unset] [])) _
                    refine XS.iconst X40.here hx rfl (hb hby at_145) ?_
                    exact kt
              · (try simp only [if_neg hc124] at kt)
                refine XS.icmpYes X40.here hx rfl (pc0 := 124) (pc' := 145) rfl (hb hby at_124) rfl (flt hc124).2.1 (by decide) (by decide) ?_
                show Steps p.tables e below (T40.setTop (mkF m 145 #[.val (.int p1), .val (.int p2), .val (.int p3), .val (.int p4), .val (.int (p1 &&& (3 : Int32))), .val (.int (own_f1 p2)), .val (.int (own_f1 p3)), .val (.int (own_f1 p4)), .val (.ref b35), .unset] [])) _
                refine XS.iconst X40.here hx rfl (hb hby at_145) ?_
                exact kt
          · (try simp only [if_neg hc102] at kt)
            refine XS.icmpNo X40.here hx rfl (hb hby at_102) rfl (flt hc102).1 ?_
            show Steps p.tables e below (T40.setTop (mkF m 105 #[.val (.int p1), .val (.int p2), .val (.int p3), .val (.int p4), .val (.int (p1 &&& (3 : Int32))), .val (.int (own_f1 p2)), .val (.int (own_f1 p3)), .val (.int (own_f1 p4)), .val (.ref b35), .unset] [])) _
            refine XS.iload X40.here hx rfl (hb hby at_105) rfl ?_
            show Steps p.tables e below (T40.setTop (mkF m 107 #[.val (.int p1), .val (.int p2), .val (.int p3), .val (.int p4), .val (.int (p1 &&& (3 : Int32))), .val (.int (own_f1 p2)), .val (.int (own_f1 p3)), .val (.int (own_f1 p4)), .val (.ref b35), .unset] [(.int (own_f1 p2))])) _
            refine XS.sipush X40.here hx rfl (hb hby at_107) ?_
            show Steps p.tables e below (T40.setTop (mkF m 110 #[.val (.int p1), .val (.int p2), .val (.int p3), .val (.int p4), .val (.int (p1 &&& (3 : Int32))), .val (.int (own_f1 p2)), .val (.int (own_f1 p3)), .val (.int (own_f1 p4)), .val (.ref b35), .unset] [(.int (128 : Int32)), (.int (own_f1 p2))])) _
            by_cases hc110 : (own_f1 p2) < (128 : Int32)
            · (try simp only [if_pos hc110] at kt)
              refine XS.icmpNo X40.here hx rfl (hb hby at_110) rfl (tlt hc110).2.1 ?_
              show Steps p.tables e below (T40.setTop (mkF m 113 #[.val (.int p1), .val (.int p2), .val (.int p3), .val (.int p4), .val (.int (p1 &&& (3 : Int32))), .val (.int (own_f1 p2)), .val (.int (own_f1 p3)), .val (.int (own_f1 p4)), .val (.ref b35), .unset] [])) _
              refine XS.iload X40.here hx rfl (hb hby at_113) rfl ?_
              show Steps p.tables e below (T40.setTop (mkF m 115 #[.val (.int p1), .val (.int p2), .val (.int p3), .val (.int p4), .val (.int (p1 &&& (3 : Int32))), .val (.int (own_f1 p2)), .val (.int (own_f1 p3)), .val (.int (own_f1 p4)), .val (.ref b35), .unset] [(.int (p1 &&& (3 : Int32)))])) _
              refine XS.iconst X40.here hx rfl (hb hby at_115) ?_
              show Steps p.tables e below (T40.setTop (mkF m 116 #[.val (.int p1), .val (.int p2), .val (.int p3), .val (.int p4), .val (.int (p1 &&& (3 : Int32))), .val (.int (own_f1 p2)), .val (.int (own_f1 p3)), .val (.int (own_f1 p4)), .val (.ref b35), .unset] [(.int (2 : Int32)), (.int (p1 &&& (3 : Int32)))])) _
              by_cases hc116 : (p1 &&& (3 : Int32)) < (2 : Int32)
              · (try simp only [if_pos hc116] at kt)
                refine XS.icmpYes X40.here hx rfl (pc0 := 116) (pc' := 127) rfl (hb hby at_116) rfl (tlt hc116).1 (by decide) (by decide) ?_
                show Steps p.tables e below (T40.setTop (mkF m 127 #[.val (.int p1), .val (.int p2), .val (.int p3), .val (.int p4), .val (.int (p1 &&& (3 : Int32))), .val (.int (own_f1 p2)), .val (.int (own_f1 p3)), .val (.int (own_f1 p4)), .val (.ref b35), .unset] [])) _
                refine XS.iload X40.here hx rfl (hb hby at_127) rfl ?_
                show Steps p.tables e below (T40.setTop (mkF m 129 #[.val (.int p1), .val (.int p2), .val (.int p3), .val (.int p4), .val (.int (p1 &&& (3 : Int32))), .val (.int (own_f1 p2)), .val (.int (own_f1 p3)), .val (.int (own_f1 p4)), .val (.ref b35), .unset] [(.int (p1 &&& (3 : Int32)))])) _
                refine XS.iconst X40.here hx rfl (hb hby at_129) ?_
                show Steps p.tables e below (T40.setTop (mkF m 130 #[.val (.int p1), .val (.int p2), .val (.int p3), .val (.int p4), .val (.int (p1 &&& (3 : Int32))), .val (.int (own_f1 p2)), .val (.int (own_f1 p3)), .val (.int (own_f1 p4)), .val (.ref b35), .unset] [(.int (3 : Int32)), (.int (p1 &&& (3 : Int32)))])) _
                by_cases hc130 : (p1 &&& (3 : Int32)) < (3 : Int32)
                · (try simp only [if_pos hc130] at kt)
                  refine XS.icmpYes X40.here hx rfl (pc0 := 130) (pc' := 141) rfl (hb hby at_130) rfl (tlt hc130).1 (by decide) (by decide) ?_
                  show Steps p.tables e below (T40.setTop (mkF m 141 #[.val (.int p1), .val (.int p2), .val (.int p3), .val (.int p4), .val (.int (p1 &&& (3 : Int32))), .val (.int (own_f1 p2)), .val (.int (own_f1 p3)), .val (.int (own_f1 p4)), .val (.ref b35), .unset] [])) _
                  refine XS.iconst X40.here hx rfl (hb hby at_141) ?_
                  show Steps p.tables e below (T40.setTop (mkF m 142 #[.val (.int p1), .val (.int p2), .val (.int p3), .val (.int p4), .val (.int (p1 &&& (3 : Int32))), .val (.int (own_f1 p2)), .val (.int (own_f1 p3)), .val (.int (own_f1 p4)), .val (.ref b35), .unset] [(.int (1 : Int32))])) _
                  refine XS.goto X40.here hx rfl (pc0 := 142) (pc' := 146) rfl (hb hby at_142) (by decide) (by decide) ?_
                  exact kt
                · (try simp only [if_neg hc130] at kt)
                  refine XS.icmpNo X40.here hx rfl (hb hby at_130) rfl (flt hc130).1 ?_
                  show Steps p.tables e below (T40.setTop (mkF m 133 #[.val (.int p1), .val (.int p2), .val (.int p3), .val (.int p4), .val (.int (p1 &&& (3 : Int32))), .val (.int (own_f1 p2)), .val (.int (own_f1 p3)), .val (.int (own_f1 p4)), .val (.ref b35), .unset] [])) _
                  refine XS.iload X40.here hx rfl (hb hby at_133) rfl ?_
                  show Steps p.tables e below (T40.setTop (mkF m 135 #[.val (.int p1), .val (.int p2), .val (.int p3), .val (.int p4), .val (.int (p1 &&& (3 : Int32))), .val (.int (own_f1 p2)), .val (.int (own_f1 p3)), .val (.int (own_f1 p4)), .val (.ref b35), .unset] [(.int (own_f1 p4))])) _
                  refine XS.sipush X40.here hx rfl (hb hby at_135) ?_
                  show Steps p.tables e below (T40.setTop (mkF m 138 #[.val (.int p1), .val (.int p2), .val (.int p3), .val (.int p4), .val (.int (p1 &&& (3 : Int32))), .val (.int (own_f1 p2)), .val (.int (own_f1 p3)), .val (.int (own_f1 p4)), .val (.ref b35), .unset] [(.int (128 : Int32)), (.int (own_f1 p4))])) _
                  by_cases hc138 : (own_f1 p4) < (128 : Int32)
                  · (try simp only [if_pos hc138] at kt)
                    refine XS.icmpNo X40.here hx rfl (hb hby at_138) rfl (tlt hc138).2.1 ?_
                    show Steps p.tables e below (T40.setTop (mkF m 141 #[.val (.int p1), .val (.int p2), .val (.int p3), .val (.int p4), .val (.int (p1 &&& (3 : Int32))), .val (.int (own_f1 p2)), .val (.int (own_f1 p3)), .val (.int (own_f1 p4)), .val (.ref b35), .unset] [])) _
                    refine XS.iconst X40.here hx rfl (hb hby at_141) ?_
                    show Steps p.tables e below (T40.setTop (mkF m 142 #[.val (.int p1), .val (.int p2), .val (.int p3), .val (.int p4), .val (.int (p1 &&& (3 : Int32))), .val (.int (own_f1 p2)), .val (.int (own_f1 p3)), .val (.int (own_f1 p4)), .val (.ref b35), .unset] [(.int (1 : Int32))])) _
                    refine XS.goto X40.here hx rfl (pc0 := 142) (pc' := 146) rfl (hb hby at_142) (by decide) (by decide) ?_
                    exact kt
                  · (try simp only [if_neg hc138] at kt)
                    refine XS.icmpYes X40.here hx rfl (pc0 := 138) (pc' := 145) rfl (hb hby at_138) rfl (flt hc138).2.1 (by decide) (by decide) ?_
                    show Steps p.tables e below (T40.setTop (mkF m 145 #[.val (.int p1), .val (.int p2), .val (.int p3), .val (.int p4), .val (.int (p1 &&& (3 : Int32))), .val (.int (own_f1 p2)), .val (.int (own_f1 p3)), .val (.int (own_f1 p4)), .val (.ref b35), .unset] [])) _
                    refine XS.iconst X40.here hx rfl (hb hby at_145) ?_
                    exact kt
              · (try simp only [if_neg hc116] at kt)
                refine XS.icmpNo X40.here hx rfl (hb hby at_116) rfl (flt hc116).1 ?_
                show Steps p.tables e below (T40.setTop (mkF m 119 #[.val (.int p1), .val (.int p2), .val (.int p3), .val (.int p4), .val (.int (p1 &&& (3 : Int32))), .val (.int (own_f1 p2)), .val (.int (own_f1 p3)), .val (.int (own_f1 p4)), .val (.ref b35), .unset] [])) _
                refine XS.iload X40.here hx rfl (hb hby at_119) rfl ?_
                show Steps p.tables e below (T40.setTop (mkF m 121 #[.val (.int p1), .val (.int p2), .val (.int p3), .val (.int p4), .val (.int (p1 &&& (3 : Int32))), .val (.int (own_f1 p2)), .val (.int (own_f1 p3)), .val (.int (own_f1 p4)), .val (.ref b35), .unset] [(.int (own_f1 p3))])) _
                refine XS.sipush X40.here hx rfl (hb hby at_121) ?_
                show Steps p.tables e below (T40.setTop (mkF m 124 #[.val (.int p1), .val (.int p2), .val (.int p3), .val (.int p4), .val (.int (p1 &&& (3 : Int32))), .val (.int (own_f1 p2)), .val (.int (own_f1 p3)), .val (.int (own_f1 p4)), .val (.ref b35), .unset] [(.int (128 : Int32)), (.int (own_f1 p3))])) _
                by_cases hc124 : (own_f1 p3) < (128 : Int32)
                · (try simp only [if_pos hc124] at kt)
                  refine XS.icmpNo X40.here hx rfl (hb hby at_124) rfl (tlt hc124).2.1 ?_
                  show Steps p.tables e below (T40.setTop (mkF m 127 #[.val (.int p1), .val (.int p2), .val (.int p3), .val (.int p4), .val (.int (p1 &&& (3 : Int32))), .val (.int (own_f1 p2)), .val (.int (own_f1 p3)), .val (.int (own_f1 p4)), .val (.ref b35), .unset] [])) _
                  refine XS.iload X40.here hx rfl (hb hby at_127) rfl ?_
                  show Steps p.tables e below (T40.setTop (mkF m 129 #[.val (.int p1), .val (.int p2), .val (.int p3), .val (.int p4), .val (.int (p1 &&& (3 : Int32))), .val (.int (own_f1 p2)), .val (.int (own_f1 p3)), .val (.int (own_f1 p4)), .val (.ref b35), .unset] [(.int (p1 &&& (3 : Int32)))])) _
                  refine XS.iconst X40.here hx rfl (hb hby at_129) ?_
                  show Steps p.tables e below (T40.setTop (mkF m 130 #[.val (.int p1), .val (.int p2), .val (.int p3), .val (.int p4), .val (.int (p1 &&& (3 : Int32))), .val (.int (own_f1 p2)), .val (.int (own_f1 p3)), .val (.int (own_f1 p4)), .val (.ref b35), .unset] [(.int (3 : Int32)), (.int (p1 &&& (3 : Int32)))])) _
                  by_cases hc130 : (p1 &&& (3 : Int32)) < (3 : Int32)
                  · (try simp only [if_pos hc130] at kt)
                    refine XS.icmpYes X40.here hx rfl (pc0 := 130) (pc' := 141) rfl (hb hby at_130) rfl (tlt hc130).1 (by decide) (by decide) ?_
                    show Steps p.tables e below (T40.setTop (mkF m 141 #[.val (.int p1), .val (.int p2), .val (.int p3), .val (.int p4), .val (.int (p1 &&& (3 : Int32))), .val (.int (own_f1 p2)), .val (.int (own_f1 p3)), .val (.int (own_f1 p4)), .val (.ref b35), .unset] [])) _
                    refine XS.iconst X40.here hx rfl (hb hby at_141) ?_
                    show Steps p.tables e below (T40.setTop (mkF m 142 #[.val (.int p1), .val (.int p2), .val (.int p3), .val (.int p4), .val (.int (p1 &&& (3 : Int32))), .val (.int (own_f1 p2)), .val (.int (own_f1 p3)), .val (.int (own_f1 p4)), .val (.ref b35), .unset] [(.int (1 : Int32))])) _
                    refine XS.goto X40.here hx rfl (pc0 := 142) (pc' := 146) rfl (hb hby at_142) (by decide) (by decide) ?_
                    exact kt
                  · (try simp only [if_neg hc130] at kt)
                    refine XS.icmpNo X40.here hx rfl (hb hby at_130) rfl (flt hc130).1 ?_
                    show Steps p.tables e below (T40.setTop (mkF m 133 #[.val (.int p1), .val (.int p2), .val (.int p3), .val (.int p4), .val (.int (p1 &&& (3 : Int32))), .val (.int (own_f1 p2)), .val (.int (own_f1 p3)), .val (.int (own_f1 p4)), .val (.ref b35), .unset] [])) _
                    refine XS.iload X40.here hx rfl (hb hby at_133) rfl ?_
                    show Steps p.tables e below (T40.setTop (mkF m 135 #[.val (.int p1), .val (.int p2), .val (.int p3), .val (.int p4), .val (.int (p1 &&& (3 : Int32))), .val (.int (own_f1 p2)), .val (.int (own_f1 p3)), .val (.int (own_f1 p4)), .val (.ref b35), .unset] [(.int (own_f1 p4))])) _
                    refine XS.sipush X40.here hx rfl (hb hby at_135) ?_
                    show Steps p.tables e below (T40.setTop (mkF m 138 #[.val (.int p1), .val (.int p2), .val (.int p3), .val (.int p4), .val (.int (p1 &&& (3 : Int32))), .val (.int (own_f1 p2)), .val (.int (own_f1 p3)), .val (.int (own_f1 p4)), .val (.ref b35), .unset] [(.int (128 : Int32)), (.int (own_f1 p4))])) _
                    by_cases hc138 : (own_f1 p4) < (128 : Int32)
                    · (try simp only [if_pos hc138] at kt)
                      refine XS.icmpNo X40.here hx rfl (hb hby at_138) rfl (tlt hc138).2.1 ?_
                      show Steps p.tables e below (T40.setTop (mkF m 141 #[.val (.int p1), .val (.int p2), .val (.int p3), .val (.int p4), .val (.int (p1 &&& (3 : Int32))), .val (.int (own_f1 p2)), .val (.int (own_f1 p3)), .val (.int (own_f1 p4)), .val (.ref b35), .unset] [])) _
                      refine XS.iconst X40.here hx rfl (hb hby at_141) ?_
                      show Steps p.tables e below (T40.setTop (mkF m 142 #[.val (.int p1), .val (.int p2), .val (.int p3), .val (.int p4), .val (.int (p1 &&& (3 : Int32))), .val (.int (own_f1 p2)), .val (.int (own_f1 p3)), .val (.int (own_f1 p4)), .val (.ref b35), .unset] [(.int (1 : Int32))])) _
                      refine XS.goto X40.here hx rfl (pc0 := 142) (pc' := 146) rfl (hb hby at_142) (by decide) (by decide) ?_
                      exact kt
                    · (try simp only [if_neg hc138] at kt)
                      refine XS.icmpYes X40.here hx rfl (pc0 := 138) (pc' := 145) rfl (hb hby at_138) rfl (flt hc138).2.1 (by decide) (by decide) ?_
                      show Steps p.tables e below (T40.setTop (mkF m 145 #[.val (.int p1), .val (.int p2), .val (.int p3), .val (.int p4), .val (.int (p1 &&& (3 : Int32))), .val (.int (own_f1 p2)), .val (.int (own_f1 p3)), .val (.int (own_f1 p4)), .val (.ref b35), .unset] [])) _
                      refine XS.iconst X40.here hx rfl (hb hby at_145) ?_
                      exact kt
                · (try simp only [if_neg hc124] at kt)
                  refine XS.icmpYes X40.here hx rfl (pc0 := 124) (pc' := 145) rfl (hb hby at_124) rfl (flt hc124).2.1 (by decide) (by decide) ?_
                  show Steps p.tables e below (T40.setTop (mkF m 145 #[.val (.int p1), .val (.int p2), .val (.int p3), .val (.int p4), .val (.int (p1 &&& (3 : Int32))), .val (.int (own_f1 p2)), .val (.int (own_f1 p3)), .val (.int (own_f1 p4)), .val (.ref b35), .unset] [])) _
                  refine XS.iconst X40.here hx rfl (hb hby at_145) ?_
                  exact kt
            · (try simp only [if_neg hc110] at kt)
              refine XS.icmpYes X40.here hx rfl (pc0 := 110) (pc' := 145) rfl (hb hby at_110) rfl (flt hc110).2.1 (by decide) (by decide) ?_
              show Steps p.tables e below (T40.setTop (mkF m 145 #[.val (.int p1), .val (.int p2), .val (.int p3), .val (.int p4), .val (.int (p1 &&& (3 : Int32))), .val (.int (own_f1 p2)), .val (.int (own_f1 p3)), .val (.int (own_f1 p4)), .val (.ref b35), .unset] [])) _
              refine XS.iconst X40.here hx rfl (hb hby at_145) ?_
              exact kt
        have pre44 : ∀ t, Steps p.tables e below (T40.setTop (mkF m 150 #[.val (.int p1), .val (.int p2), .val (.int p3), .val (.int p4), .val (.int (p1 &&& (3 : Int32))), .val (.int (own_f1 p2)), .val (.int (own_f1 p3)), .val (.int (own_f1 p4)), .val (.ref b35), .val (.int v43_0)] [(.ref b35)])) t → Steps p.tables e below (s₁.setTop (entryFrame m #[(.int p1), (.int p2), (.int p3), (.int p4)] maxLocals)) t := by
          intro t kt
          refine pre43 t ?_
          show Steps p.tables e below (T40.setTop (mkF m 146 #[.val (.int p1), .val (.int p2), .val (.int p3), .val (.int p4), .val (.int (p1 &&& (3 : Int32))), .val (.int (own_f1 p2)), .val (.int (own_f1 p3)), .val (.int (own_f1 p4)), .val (.ref b35), .unset] [(.int v43_0)])) _
          refine XS.istore X40.here hx rfl (hb hby at_146) rfl (l' := #[.val (.int p1), .val (.int p2), .val (.int p3), .val (.int p4), .val (.int (p1 &&& (3 : Int32))), .val (.int (own_f1 p2)), .val (.int (own_f1 p3)), .val (.int (own_f1 p4)), .val (.ref b35), .val (.int v43_0)]) rfl ?_
          show Steps p.tables e below (T40.setTop (mkF m 148 #[.val (.int p1), .val (.int p2), .val (.int p3), .val (.int p4), .val (.int (p1 &&& (3 : Int32))), .val (.int (own_f1 p2)), .val (.int (own_f1 p3)), .val (.int (own_f1 p4)), .val (.ref b35), .val (.int v43_0)] [])) _
          refine XS.aload X40.here hx rfl (hb hby at_148) rfl rfl ?_
          exact kt
        obtain ⟨_, _, ⟨T45, L45, k45, n45⟩, -, X45, ⟨Lc45, hQ45, l45, y45, z45⟩, st45⟩ := Jvm.LawKit.callS X40 hx (y := (⟨own_k9, "isAscii", "([I)Z"⟩ : MethodName)) hown (mvT hZ (hw _ (List.mem_of_getElem? (i := 7) rfl))) (mvT hZ (hw _ (List.mem_of_getElem? (i := 8) rfl))) (mvT hZ (hw _ (List.mem_of_getElem? (i := 9) rfl))) (mvT hZ (hw _ (List.mem_of_getElem? (i := 10) rfl))) (by decide) (backOf (W := 0) (rm2_2 l Z a0 hw [] b35 k35 (own_f1 p2) (own_f1 p3) h40 n0 Z40 V_b35_40') hZ (hw _ (List.mem_of_getElem? (i := 10) rfl)) (hw _ (List.mem_of_getElem? (i := 9) rfl)) (by decide) (by decide)) (g := (mkF m 150 #[.val (.int p1), .val (.int p2), .val (.int p3), .val (.int p4), .val (.int (p1 &&& (3 : Int32))), .val (.int (own_f1 p2)), .val (.int (own_f1 p3)), .val (.int (own_f1 p4)), .val (.ref b35), .val (.int v43_0)] [(.ref b35)])) rfl (by rw [hml]; rfl) (argsL := [(.ref b35)]) (rest := []) (lenOf pd_1 rfl) rfl (by show 2 * 0 + _ ≤ _; exact Nat.le_of_eq rfl) (hb hby at_150) (fun _ _ => ⟨rfl, e40, (by decide : 1 + 0 ≤ _), (by decide : 2 + 0 ≤ _)⟩)
        dsimp only [Pt.U, Pt.locs, Pt.cells, Pt.slots] at X45 l45 y45 z45 st45 hQ45
        subst l45 y45 z45
        obtain ⟨rfl, N45q, e45⟩ := hQ45
        have N45 := Fr.app N40 N45q
        have pre45 : ∀ t, Steps p.tables e below (T45.setTop (mkF m 153 #[.val (.int p1), .val (.int p2), .val (.int p3), .val (.int p4), .val (.int (p1 &&& (3 : Int32))), .val (.int (own_f1 p2)), .val (.int (own_f1 p3)), .val (.int (own_f1 p4)), .val (.ref b35), .val (.int v43_0)] [(.int (if (own_f1 p2) < (128 : Int32) then (if (own_f1 p3) < (128 : Int32) then (1 : Int32) else (0 : Int32)) else (0 : Int32)))])) t → Steps p.tables e below (s₁.setTop (entryFrame m #[(.int p1), (.int p2), (.int p3), (.int p4)] maxLocals)) t := fun t kt => pre44 t (st45 _ kt)
        have pre46 : ∀ t, Steps p.tables e below (T45.setTop (mkF m 155 #[.val (.int p1), .val (.int p2), .val (.int p3), .val (.int p4), .val (.int (p1 &&& (3 : Int32))), .val (.int (own_f1 p2)), .val (.int (own_f1 p3)), .val (.int (own_f1 p4)), .val (.ref b35), .val (.int v43_0)] [(.int v43_0), (.int (if (own_f1 p2) < (128 : Int32) then (if (own_f1 p3) < (128 : Int32) then (1 : Int32) else (0 : Int32)) else (0 : Int32)))])) t → Steps p.tables e below (s₁.setTop (entryFrame m #[(.int p1), (.int p2), (.int p3), (.int p4)] maxLocals)) t := by
          intro t kt
          refine pre45 t ?_
          show Steps p.tables e below (T45.setTop (mkF m 153 #[.val (.int p1), .val (.int p2), .val (.int p3), .val (.int p4), .val (.int (p1 &&& (3 : Int32))), .val (.int (own_f1 p2)), .val (.int (own_f1 p3)), .val (.int (own_f1 p4)), .val (.ref b35), .val (.int v43_0)] [(.int (if (own_f1 p2) < (128 : Int32) then (if (own_f1 p3) < (128 : Int32) then (1 : Int32) else (0 : Int32)) else (0 : Int32)))])) _
          refine XS.iload X45.here hx rfl (hb hby at_153) rfl ?_
          exact kt
        obtain ⟨v47_0, hv47_0, pre47⟩ : ∃ (v47_0 : Int32), v47_0 = (if (if (own_f1 p2) < (128 : Int32) then (if (own_f1 p3) < (128 : Int32) then (1 : Int32) else (0 : Int32)) else (0 : Int32)) = v43_0 then (1 : Int32) else (0 : Int32)) ∧ ∀ t, Steps p.tables e below (T45.setTop (mkF m 163 #[.val (.int p1), .val (.int p2), .val (.int p3), .val (.int p4), .val (.int (p1 &&& (3 : Int32))), .val (.int (own_f1 p2)), .val (.int (own_f1 p3)), .val (.int (own_f1 p4)), .val (.ref b35), .val (.int v43_0)] [(.int v47_0)])) t → Steps p.tables e below (s₁.setTop (entryFrame m #[(.int p1), (.int p2), (.int p3), (.int p4)] maxLocals)) t := by
          refine ⟨_, rfl, ?_⟩
          intro t kt
          refine pre46 t ?_
          show Steps p.tables e below (T45.setTop (mkF m 155 #[.val (.int p1), .val (.int p2), .val (.int p3), .val (.int p4), .val (.int (p1 &&& (3 : Int32))), .val (.int (own_f1 p2)), .val (.int (own_f1 p3)), .val (.int (own_f1 p4)), .val (.ref b35), .val (.int v43_0)] [(.int v43_0), (.int (if (own_f1 p2) < (128 : Int32) then (if (own_f1 p3) < (128 : Int32) then (1 : Int32) else (0 : Int32)) else (0 : Int32)))])) _
          by_cases hc155 : (if (own_f1 p2) < (128 : Int32) then (if (own_f1 p3) < (128 : Int32) then (1 : Int32) else (0 : Int32)) else (0 : Int32)) = v43_0
          · (try simp only [if_pos hc155] at kt)
            refine XS.icmpNo X45.here hx rfl (hb hby at_155) rfl (teq hc155).2 ?_
            show Steps p.tables e below (T45.setTop (mkF m 158 #[.val (.int p1), .val (.int p2), .val (.int p3), .val (.int p4), .val (.int (p1 &&& (3 : Int32))), .val (.int (own_f1 p2)), .val (.int (own_f1 p3)), .val (.int (own_f1 p4)), .val (.ref b35), .val (.int v43_0)] [])) _
            refine XS.iconst X45.here hx rfl (hb hby at_158) ?_
            show Steps p.tables e below (T45.setTop (mkF m 159 #[.val (.int p1), .val (.int p2), .val (.int p3), .val (.int p4), .val (.int (p1 &&& (3 : Int32))), .val (.int (own_f1 p2)), .val (.int (own_f1 p3)), .val (.int (own_f1 p4)), .val (.ref b35), .val (.int v43_0)] [(.int (1 : Int32))])) _
            refine XS.goto X45.here hx rfl (pc0 := 159) (pc' := 163) rfl (hb hby at_159) (by decide) (by decide) ?_
            exact kt
          · (try simp only [if_neg hc155] at kt)
            refine XS.icmpYes X45.here hx rfl (pc0 := 155) (pc' := 162) rfl (hb hby at_155) rfl (feq hc155).2 (by decide) (by decide) ?_
            show Steps p.tables e below (T45.setTop (mkF m 162 #[.val (.int p1), .val (.int p2), .val (.int p3), .val (.int p4), .val (.int (p1 &&& (3 : Int32))), .val (.int (own_f1 p2)), .val (.int (own_f1 p3)), .val (.int (own_f1 p4)), .val (.ref b35), .val (.int v43_0)] [])) _
            refine XS.iconst X45.here hx rfl (hb hby at_162) ?_
            exact kt
        have hfin : v47_0 = 1 := by
          have hn : (p1 &&& (3 : Int32)) = 2 := hc58
          simp only [hv47_0, hv43_0, hn]
          by_cases ha : (own_f1 p2) < (128 : Int32) <;> by_cases hb : (own_f1 p3) < (128 : Int32) <;> by_cases hc : (own_f1 p4) < (128 : Int32) <;> simp [ha, hb, hc]
        obtain ⟨fs, hr, hrun, hended, hW, hsame⟩ := X45.leave (v := some (.int (1 : Int32))) (fun h => by rw [Bd.returns] at h; cases h)
        refine ⟨_, _, pre47 _ ?_, hrun, hended, _, _, rfl, ?_, ⟨_, rfl⟩, hW, hsame.mono (by decide) (by decide)⟩
        · show Steps p.tables e below (T45.setTop (mkF m 163 #[.val (.int p1), .val (.int p2), .val (.int p3), .val (.int p4), .val (.int (p1 &&& (3 : Int32))), .val (.int (own_f1 p2)), .val (.int (own_f1 p3)), .val (.int (own_f1 p4)), .val (.ref b35), .val (.int v43_0)] [(.int v47_0)])) _
          rw [hfin]
          exact retN X45 hx (t := .boolean) Bd.returns (by simp) (hb hby at_163) hr
        · show Q0 n0 _ T45.heap _
          rw [e45]
          exact ⟨rfl, N45⟩
      · have pre48 : ∀ t, Steps p.tables e below (T6.setTop (mkF m 79 #[.val (.int p1), .val (.int p2), .val (.int p3), .val (.int p4), .val (.int (p1 &&& (3 : Int32))), .val (.int (own_f1 p2)), .val (.int (own_f1 p3)), .val (.int (own_f1 p4)), .unset, .unset] [])) t → Steps p.tables e below (s₁.setTop (entryFrame m #[(.int p1), (.int p2), (.int p3), (.int p4)] maxLocals)) t := by
          intro t kt
          refine pre32 t ?_
          show Steps p.tables e below (T6.setTop (mkF m 58 #[.val (.int p1), .val (.int p2), .val (.int p3), .val (.int p4), .val (.int (p1 &&& (3 : Int32))), .val (.int (own_f1 p2)), .val (.int (own_f1 p3)), .val (.int (own_f1 p4)), .unset, .unset] [(.int (2 : Int32)), (.int (p1 &&& (3 : Int32)))])) _
          refine XS.icmpYes X6.here hx rfl (pc0 := 58) (pc' := 79) rfl (hb hby at_58) rfl (feq hc58).2 (by decide) (by decide) ?_
          exact kt
        have pre49 : ∀ t, Steps p.tables e below (T6.setTop (mkF m 80 #[.val (.int p1), .val (.int p2), .val (.int p3), .val (.int p4), .val (.int (p1 &&& (3 : Int32))), .val (.int (own_f1 p2)), .val (.int (own_f1 p3)), .val (.int (own_f1 p4)), .unset, .unset] [(.int (3 : Int32))])) t → Steps p.tables e below (s₁.setTop (entryFrame m #[(.int p1), (.int p2), (.int p3), (.int p4)] maxLocals)) t := by
          intro t kt
          refine pre48 t ?_
          show Steps p.tables e below (T6.setTop (mkF m 79 #[.val (.int p1), .val (.int p2), .val (.int p3), .val (.int p4), .val (.int (p1 &&& (3 : Int32))), .val (.int (own_f1 p2)), .val (.int (own_f1 p3)), .val (.int (own_f1 p4)), .unset, .unset] [])) _
          refine XS.iconst X6.here hx rfl (hb hby at_79) ?_
          exact kt
        obtain ⟨T50, h50, k50, X50, e50, E50, A50, st50⟩ := newP X6 hx hZ (hw _ (List.mem_of_getElem? (i := 6) rfl)) e6 (g := (mkF m 80 #[.val (.int p1), .val (.int p2), .val (.int p3), .val (.int p4), .val (.int (p1 &&& (3 : Int32))), .val (.int (own_f1 p2)), .val (.int (own_f1 p3)), .val (.int (own_f1 p4)), .unset, .unset] [(.int (3 : Int32))])) rfl (hb hby at_80) rfl (by decide) (cap := 3) (by decide) (by decide) (by decide) (by decide)
        obtain ⟨b50, g50⟩ : ∃ z, z = h0.size := ⟨_, rfl⟩
        have g_b50 : n0 ≤ b50 := Nat.le_trans Z0 (Nat.le_of_eq g50.symm)
        have sz_b50 : h0.size ≤ b50 := Nat.le_trans (Keep.refl h0 []).1 (Nat.le_of_eq g50.symm)
        rw [← g50] at A50 st50
        have K50 : Keep h0 h50 [] := (Keep.refl h0 []).ext E50
        have Z50 : n0 ≤ h50.size := Nat.le_trans Z0 E50.1
        have V_b50 : Arv Z h50 b50 k50 .int (3 : Int32) [(.int (0 : Int32)), (.int (0 : Int32)), (.int (0 : Int32))] (.int (0 : Int32)) := (Arv.new A50 (by decide)).pad (pad_rep [] (.int (0 : Int32)) 3)
        have pre50 : ∀ t, Steps p.tables e below (T50.setTop (mkF m 82 #[.val (.int p1), .val (.int p2), .val (.int p3), .val (.int p4), .val (.int (p1 &&& (3 : Int32))), .val (.int (own_f1 p2)), .val (.int (own_f1 p3)), .val (.int (own_f1 p4)), .unset, .unset] [(.ref b50)])) t → Steps p.tables e below (s₁.setTop (entryFrame m #[(.int p1), (.int p2), (.int p3), (.int p4)] maxLocals)) t := fun t kt => pre49 t (st50 _ kt)
        have pre51 : ∀ t, Steps p.tables e below (T50.setTop (mkF m 86 #[.val (.int p1), .val (.int p2), .val (.int p3), .val (.int p4), .val (.int (p1 &&& (3 : Int32))), .val (.int (own_f1 p2)), .val (.int (own_f1 p3)), .val (.int (own_f1 p4)), .unset, .unset] [(.int (own_f1 p2)), (.int (0 : Int32)), (.ref b50), (.ref b50)])) t → Steps p.tables e below (s₁.setTop (entryFrame m #[(.int p1), (.int p2), (.int p3), (.int p4)] maxLocals)) t := by
          intro t kt
          refine pre50 t ?_
          show Steps p.tables e below (T50.setTop (mkF m 82 #[.val (.int p1), .val (.int p2), .val (.int p3), .val (.int p4), .val (.int (p1 &&& (3 : Int32))), .val (.int (own_f1 p2)), .val (.int (own_f1 p3)), .val (.int (own_f1 p4)), .unset, .unset] [(.ref b50)])) _
          refine XS.dup X50.here hx rfl (hb hby at_82) rfl rfl ?_
          show Steps p.tables e below (T50.setTop (mkF m 83 #[.val (.int p1), .val (.int p2), .val (.int p3), .val (.int p4), .val (.int (p1 &&& (3 : Int32))), .val (.int (own_f1 p2)), .val (.int (own_f1 p3)), .val (.int (own_f1 p4)), .unset, .unset] [(.ref b50), (.ref b50)])) _
          refine XS.iconst X50.here hx rfl (hb hby at_83) ?_
          show Steps p.tables e below (T50.setTop (mkF m 84 #[.val (.int p1), .val (.int p2), .val (.int p3), .val (.int p4), .val (.int (p1 &&& (3 : Int32))), .val (.int (own_f1 p2)), .val (.int (own_f1 p3)), .val (.int (own_f1 p4)), .unset, .unset] [(.int (0 : Int32)), (.ref b50), (.ref b50)])) _
          refine XS.iload X50.here hx rfl (hb hby at_84) rfl ?_
          exact kt
        obtain ⟨cl52, Ar52, q52, S52, M52, H52, G52⟩ := (id V_b50)
        have hin52 : ¬ ((0 : Int32) < 0 ∨ cl52.slots.size ≤ ((0 : Int32)).toNatClampNeg) := inb_of S52 ⟨by decide, by decide⟩
        obtain ⟨T52, h52, X52, e52, W52, st52⟩ := stI X50 hx hZ e50 Ar52 (j := (0 : Int32)) hin52 (g := (mkF m 86 #[.val (.int p1), .val (.int p2), .val (.int p3), .val (.int p4), .val (.int (p1 &&& (3 : Int32))), .val (.int (own_f1 p2)), .val (.int (own_f1 p3)), .val (.int (own_f1 p4)), .unset, .unset] [(.int (own_f1 p2)), (.int (0 : Int32)), (.ref b50), (.ref b50)])) rfl rfl (hb hby at_86)
        have V_b50_52 := Arv.set Ar52 q52 S52 M52 H52 G52 rfl W52 0 rfl (Nat.le_of_ble_eq_true rfl)
        have N52 := Fr.snoc X52 N6 g_b50
        have K52 : Keep h0 h52 [] := K50.wr W52 (Or.inr sz_b50)
        have Z52 : n0 ≤ h52.size := Nat.le_trans Z50 (Keep.of_wr W52).1
        have V_b50_52' : Arv Z h52 b50 k50 .int (3 : Int32) [(.int (own_f1 p2)), (.int (0 : Int32)), (.int (0 : Int32))] (.int (0 : Int32)) := V_b50_52
        have pre52 : ∀ t, Steps p.tables e below (T52.setTop (mkF m 87 #[.val (.int p1), .val (.int p2), .val (.int p3), .val (.int p4), .val (.int (p1 &&& (3 : Int32))), .val (.int (own_f1 p2)), .val (.int (own_f1 p3)), .val (.int (own_f1 p4)), .unset, .unset] [(.ref b50)])) t → Steps p.tables e below (s₁.setTop (entryFrame m #[(.int p1), (.int p2), (.int p3), (.int p4)] maxLocals)) t := fun t kt => pre51 t (st52 _ kt)
        have pre54 : ∀ t, Steps p.tables e below (T52.setTop (mkF m 91 #[.val (.int p1), .val (.int p2), .val (.int p3), .val (.int p4), .val (.int (p1 &&& (3 : Int32))), .val (.int (own_f1 p2)), .val (.int (own_f1 p3)), .val (.int (own_f1 p4)), .unset, .unset] [(.int (own_f1 p3)), (.int (1 : Int32)), (.ref b50), (.ref b50)])) t → Steps p.tables e below (s₁.setTop (entryFrame m #[(.int p1), (.int p2), (.int p3), (.int p4)] maxLocals)) t := by
          intro t kt
          refine pre52 t ?_
          show Steps p.tables e below (T52.setTop (mkF m 87 #[.val (.int p1), .val (.int p2), .val (.int p3), .val (.int p4), .val (.int (p1 &&& (3 : Int32))), .val (.int (own_f1 p2)), .val (.int (own_f1 p3)), .val (.int (own_f1 p4)), .unset, .unset] [(.ref b50)])) _
          refine XS.dup X52.here hx rfl (hb hby at_87) rfl rfl ?_
          show Steps p.tables e below (T52.setTop (mkF m 88 #[.val (.int p1), .val (.int p2), .val (.int p3), .val (.int p4), .val (.int (p1 &&& (3 : Int32))), .val (.int (own_f1 p2)), .val (.int (own_f1 p3)), .val (.int (own_f1 p4)), .unset, .unset] [(.ref b50), (.ref b50)])) _
          refine XS.iconst X52.here hx rfl (hb hby at_88) ?_
          show Steps p.tables e below (T52.setTop (mkF m 89 #[.val (.int p1), .val (.int p2), .val (.int p3), .val (.int p4), .val (.int (p1 &&& (3 : Int32))), .val (.int (own_f1 p2)), .val (.int (own_f1 p3)), .val (.int (own_f1 p4)), .unset, .unset] [(.int (1 : Int32)), (.ref b50), (.ref b50)])) _
          refine XS.iload X52.here hx rfl (hb hby at_89) rfl ?_
          exact kt
        obtain ⟨cl55, Ar55, q55, S55, M55, H55, G55⟩ := (id V_b50_52')
        have hin55 : ¬ ((1 : Int32) < 0 ∨ cl55.slots.size ≤ ((1 : Int32)).toNatClampNeg) := inb_of S55 ⟨by decide, by decide⟩
        obtain ⟨T55, h55, X55, e55, W55, st55⟩ := stI X52 hx hZ e52 Ar55 (j := (1 : Int32)) hin55 (g := (mkF m 91 #[.val (.int p1), .val (.int p2), .val (.int p3), .val (.int p4), .val (.int (p1 &&& (3 : Int32))), .val (.int (own_f1 p2)), .val (.int (own_f1 p3)), .val (.int (own_f1 p4)), .unset, .unset] [(.int (own_f1 p3)), (.int (1 : Int32)), (.ref b50), (.ref b50)])) rfl rfl (hb hby at_91)
        have V_b50_55 := Arv.set Ar55 q55 S55 M55 H55 G55 rfl W55 1 rfl (Nat.le_of_ble_eq_true rfl)
        have N55 := Fr.snoc X55 N52 g_b50
        have K55 : Keep h0 h55 [] := K52.wr W55 (Or.inr sz_b50)
        have Z55 : n0 ≤ h55.size := Nat.le_trans Z52 (Keep.of_wr W55).1
        have V_b50_55' : Arv Z h55 b50 k50 .int (3 : Int32) [(.int (own_f1 p2)), (.int (own_f1 p3)), (.int (0 : Int32))] (.int (0 : Int32)) := V_b50_55
        have pre55 : ∀ t, Steps p.tables e below (T55.setTop (mkF m 92 #[.val (.int p1), .val (.int p2), .val (.int p3), .val (.int p4), .val (.int (p1 &&& (3 : Int32))), .val (.int (own_f1 p2)), .val (.int (own_f1 p3)), .val (.int (own_f1 p4)), .unset, .unset] [(.ref b50)])) t → Steps p.tables e below (s₁.setTop (entryFrame m #[(.int p1), (.int p2), (.int p3), (.int p4)] maxLocals)) t := fun t kt => pre54 t (st55 _ kt)
        have pre57 : ∀ t, Steps p.tables e below (T55.setTop (mkF m 96 #[.val (.int p1), .val (.int p2), .val (.int p3), .val (.int p4), .val (.int (p1 &&& (3 : Int32))), .val (.int (own_f1 p2)), .val (.int (own_f1 p3)), .val (.int (own_f1 p4)), .unset, .unset] [(.int (own_f1 p4)), (.int (2 : Int32)), (.ref b50), (.ref b50)])) t → Steps p.tables e below (s₁.setTop (entryFrame m #[(.int p1), (.int p2), (.int p3), (.int p4)] maxLocals)) t := by
          intro t kt
          refine pre55 t ?_
          show Steps p.tables e below (T55.setTop (mkF m 92 #[.val (.int p1), .val (.int p2), .val (.int p3), .val (.int p4), .val (.int (p1 &&& (3 : Int32))), .val (.int (own_f1 p2)), .val (.int (own_f1 p3)), .val (.int (own_f1 p4)), .unset, .unset] [(.ref b50)])) _
          refine XS.dup X55.here hx rfl (hb hby at_92) rfl rfl ?_
          show Steps p.tables e below (T55.setTop (mkF m 93 #[.val (.int p1), .val (.int p2), .val (.int p3), .val (.int p4), .val (.int (p1 &&& (3 : Int32))), .val (.int (own_f1 p2)), .val (.int (own_f1 p3)), .val (.int (own_f1 p4)), .unset, .unset] [(.ref b50), (.ref b50)])) _
          refine XS.iconst X55.here hx rfl (hb hby at_93) ?_
          show Steps p.tables e below (T55.setTop (mkF m 94 #[.val (.int p1), .val (.int p2), .val (.int p3), .val (.int p4), .val (.int (p1 &&& (3 : Int32))), .val (.int (own_f1 p2)), .val (.int (own_f1 p3)), .val (.int (own_f1 p4)), .unset, .unset] [(.int (2 : Int32)), (.ref b50), (.ref b50)])) _
          refine XS.iload X55.here hx rfl (hb hby at_94) rfl ?_
          exact kt
        obtain ⟨cl58, Ar58, q58, S58, M58, H58, G58⟩ := (id V_b50_55')
        have hin58 : ¬ ((2 : Int32) < 0 ∨ cl58.slots.size ≤ ((2 : Int32)).toNatClampNeg) := inb_of S58 ⟨by decide, by decide⟩
        obtain ⟨T58, h58, X58, e58, W58, st58⟩ := stI X55 hx hZ e55 Ar58 (j := (2 : Int32)) hin58 (g := (mkF m 96 #[.val (.int p1), .val (.int p2), .val (.int p3), .val (.int p4), .val (.int (p1 &&& (3 : Int32))), .val (.int (own_f1 p2)), .val (.int (own_f1 p3)), .val (.int (own_f1 p4)), .unset, .unset] [(.int (own_f1 p4)), (.int (2 : Int32)), (.ref b50), (.ref b50)])) rfl rfl (hb hby at_96)
        have V_b50_58 := Arv.set Ar58 q58 S58 M58 H58 G58 rfl W58 2 rfl (Nat.le_of_ble_eq_true rfl)
        have N58 := Fr.snoc X58 N55 g_b50
        have K58 : Keep h0 h58 [] := K55.wr W58 (Or.inr sz_b50)
        have Z58 : n0 ≤ h58.size := Nat.le_trans Z55 (Keep.of_wr W58).1
        have V_b50_58' : Arv Z h58 b50 k50 .int (3 : Int32) [(.int (own_f1 p2)), (.int (own_f1 p3)), (.int (own_f1 p4))] (.int (0 : Int32)) := V_b50_58
        have pre58 : ∀ t, Steps p.tables e below (T58.setTop (mkF m 97 #[.val (.int p1), .val (.int p2), .val (.int p3), .val (.int p4), .val (.int (p1 &&& (3 : Int32))), .val (.int (own_f1 p2)), .val (.int (own_f1 p3)), .val (.int (own_f1 p4)), .unset, .unset] [(.ref b50)])) t → Steps p.tables e below (s₁.setTop (entryFrame m #[(.int p1), (.int p2), (.int p3), (.int p4)] maxLocals)) t := fun t kt => pre57 t (st58 _ kt)
        have pre60 : ∀ t, Steps p.tables e below (T58.setTop (mkF m 102 #[.val (.int p1), .val (.int p2), .val (.int p3), .val (.int p4), .val (.int (p1 &&& (3 : Int32))), .val (.int (own_f1 p2)), .val (.int (own_f1 p3)), .val (.int (own_f1 p4)), .val (.ref b50), .unset] [(.int (1 : Int32)), (.int (p1 &&& (3 : Int32)))])) t → Steps p.tables e below (s₁.setTop (entryFrame m #[(.int p1), (.int p2), (.int p3), (.int p4)] maxLocals)) t := by
          intro t kt
          refine pre58 t ?_
          show Steps p.tables e below (T58.setTop (mkF m 97 #[.val (.int p1), .val (.int p2), .val (.int p3), .val (.int p4), .val (.int (p1 &&& (3 : Int32))), .val (.int (own_f1 p2)), .val (.int (own_f1 p3)), .val (.int (own_f1 p4)), .unset, .unset] [(.ref b50)])) _
          refine XS.astore X58.here hx rfl (hb hby at_97) rfl rfl (l' := #[.val (.int p1), .val (.int p2), .val (.int p3), .val (.int p4), .val (.int (p1 &&& (3 : Int32))), .val (.int (own_f1 p2)), .val (.int (own_f1 p3)), .val (.int (own_f1 p4)), .val (.ref b50), .unset]) rfl ?_
          show Steps p.tables e below (T58.setTop (mkF m 99 #[.val (.int p1), .val (.int p2), .val (.int p3), .val (.int p4), .val (.int (p1 &&& (3 : Int32))), .val (.int (own_f1 p2)), .val (.int (own_f1 p3)), .val (.int (own_f1 p4)), .val (.ref b50), .unset] [])) _
          refine XS.iload X58.here hx rfl (hb hby at_99) rfl ?_
          show Steps p.tables e below (T58.setTop (mkF m 101 #[.val (.int p1), .val (.int p2), .val (.int p3), .val (.int p4), .val (.int (p1 &&& (3 : Int32))), .val (.int (own_f1 p2)), .val (.int (own_f1 p3)), .val (.int (own_f1 p4)), .val (.ref b50), .unset] [(.int (p1 &&& (3 : Int32)))])) _
          refine XS.iconst X58.here hx rfl (hb hby at_101) ?_
          exact kt
        obtain ⟨v61_0, hv61_0, pre61⟩ : ∃ (v61_0 : Int32), v61_0 = (if (p1 &&& (3 : Int32)) < (1 : Int32) then (if (p1 &&& (3 : Int32)) < (2 : Int32) then (if (p1 &&& (3 : Int32)) < (3 : Int32) then (1 : Int32) else (if (own_f1 p4) < (128 : Int32) then (1 : Int32) else (0 : Int32))) else (if (own_f1 p3) < (128 : Int32) then (if (p1 &&& (3 : Int32)) < (3 : Int32) then (1 : Int32) else (if (own_f1 p4) < (128 : Int32) then (1 : Int32) else (0 : Int32))) else (0 : Int32))) else (if (own_f1 p2) < (128 : Int32) then (if (p1 &&& (3 : Int32)) < (2 : Int32) then (if (p1 &&& (3 : Int32)) < (3 : Int32) then (1 : Int32) else (if (own_f1 p4) < (128 : Int32) then (1 : Int32) else (0 : Int32))) else (if (own_f1 p3) < (128 : Int32) then (if (p1 &&& (3 : Int32)) < (3 : Int32) then (1 : Int32) else (if (own_f1 p4) < (128 : Int32) then (1 : Int32) else (0 : Int32))) else (0 : Int32))) else (0 : Int32))) ∧ ∀ t, Steps p.tables e below (T58.setTop (mkF m 146 #[.val (.int p1), .val (.int p2), .val (.int p3), .val (.int p4), .val (.int (p1 &&& (3 : Int32))), .val (.int (own_f1 p2)), .val (.int (own_f1 p3)), .val (.int (own_f1 p4)), .val (.ref b50), .unset] [(.int v61_0)])) t → Steps p.tables e below (s₁.setTop (entryFrame m #[(.int p1), (.int p2), (.int p3), (.int p4)] maxLocals)) t := by
          refine ⟨_, rfl, ?_⟩
          intro t kt
          refine pre60 t ?_
          show Steps p.tables e below (T58.setTop (mkF m 102 #[.val (.int p1), .val (.int p2), .val (.int p3), .val (.int p4), .val (.int (p1 &&& (3 : Int32))), .val (.int (own_f1 p2)), .val (.int (own_f1 p3)), .val (.int (own_f1 p4)), .val (.ref b50), .unset] [(.int (1 : Int32)), (.int (p1 &&& (3 : Int32)))])) _
          by_cases hc102 : (p1 &&& (3 : Int32)) < (1 : Int32)
          · (try simp only [if_pos hc102] at kt)
            refine XS.icmpYes X58.here hx rfl (pc0 := 102) (pc' := 113) rfl (hb hby at_102) rfl (tlt hc102).1 (by decide) (by decide) ?_
            show Steps p.tables e below (T58.setTop (mkF m 113 #[.val (.int p1), .val (.int p2), .val (.int p3), .val (.int p4), .val (.int (p1 &&& (3 : Int32))), .val (.int (own_f1 p2)), .val (.int (own_f1 p3)), .val (.int (own_f1 p4)), .val (.ref b50), .unset] [])) _
            refine XS.iload X58.here hx rfl (hb hby at_113) rfl ?_
            show Steps p.tables e below (T58.setTop (mkF m 115 #[.val (.int p1), .val (.int p2), .val (.int p3), .val (.int p4), .val (.int (p1 &&& (3 : Int32))), .val (.int (own_f1 p2)), .val (.int (own_f1 p3)), .val (.int (own_f1 p4)), .val (.ref b50), .unset] [(.int (p1 &&& (3 : Int32)))])) _
            refine XS.iconst X58.here hx rfl (hb hby at_115) ?_
            show Steps p.tables e below (T58.setTop (mkF m 116 #[.val (.int p1), .val (.int p2), .val (.int p3), .val (.int p4), .val (.int (p1 &&& (3 : Int32))), .val (.int (own_f1 p2)), .val (.int (own_f1 p3)), .val (.int (own_f1 p4)), .val (.ref b50), .unset] [(.int (2 : Int32)), (.int (p1 &&& (3 : Int32)))])) _
            by_cases hc116 : (p1 &&& (3 : Int32)) < (2 : Int32)
            · (try simp only [if_pos hc116] at kt)
              refine XS.icmpYes X58.here hx rfl (pc0 := 116) (pc' := 127) rfl (hb hby at_116) rfl (tlt hc116).1 (by decide) (by decide) ?_
              show Steps p.tables e below (T58.setTop (mkF m 127 #[.val (.int p1), .val (.int p2), .val (.int p3), .val (.int p4), .val (.int (p1 &&& (3 : Int32))), .val (.int (own_f1 p2)), .val (.int (own_f1 p3)), .val (.int (own_f1 p4)), .val (.ref b50), .unset] [])) _
              refine XS.iload X58.here hx rfl (hb hby at_127) rfl ?_
              show Steps p.tables e below (T58.setTop (mkF m 129 #[.val (.int p1), .val (.int p2), .val (.int p3), .val (.int p4), .val (.int (p1 &&& (3 : Int32))), .val (.int (own_f1 p2)), .val (.int (own_f1 p3)), .val (.int (own_f1 p4)), .val (.ref b50), .unset] [(.int (p1 &&& (3 : Int32)))])) _
              refine XS.iconst X58.here hx rfl (hb hby at_129) ?_
              show Steps p.tables e below (T58.setTop (mkF m 130 #[.val (.int p1), .val (.int p2), .val (.int p3), .val (.int p4), .val (.int (p1 &&& (3 : Int32))), .val (.int (own_f1 p2)), .val (.int (own_f1 p3)), .val (.int (own_f1 p4)), .val (.ref b50), .unset] [(.int (3 : Int32)), (.int (p1 &&& (3 : Int32)))])) _
              by_cases hc130 : (p1 &&& (3 : Int32)) < (3 : Int32)
              · (try simp only [if_pos hc130] at kt)
                refine XS.icmpYes X58.here hx rfl (pc0 := 130) (pc' := 141) rfl (hb hby at_130) rfl (tlt hc130).1 (by decide) (by decide) ?_
                show Steps p.tables e below (T58.setTop (mkF m 141 #[.val (.int p1), .val (.int p2), .val (.int p3), .val (.int p4), .val (.int (p1 &&& (3 : Int32))), .val (.int (own_f1 p2)), .val (.int (own_f1 p3)), .val (.int (own_f1 p4)), .val (.ref b50), .unset] [])) _
                refine XS.iconst X58.here hx rfl (hb hby at_141) ?_
                show Steps p.tables e below (T58.setTop (mkF m 142 #[.val (.int p1), .val (.int p2), .val (.int p3), .val (.int p4), .val (.int (p1 &&& (3 : Int32))), .val (.int (own_f1 p2)), .val (.int (own_f1 p3)), .val (.int (own_f1 p4)), .val (.ref b50), .unset] [(.int (1 : Int32))])) _
                refine XS.goto X58.here hx rfl (pc0 := 142) (pc' := 146) rfl (hb hby at_142) (by decide) (by decide) ?_
                exact kt
              · (try simp only [if_neg hc130] at kt)
                refine XS.icmpNo X58.here hx rfl (hb hby at_130) rfl (flt hc130).1 ?_
                show Steps p.tables e below (T58.setTop (mkF m 133 #[.val (.int p1), .val (.int p2), .val (.int p3), .val (.int p4), .val (.int (p1 &&& (3 : Int32))), .val (.int (own_f1 p2)), .val (.int (own_f1 p3)), .val (.int (own_f1 p4)), .val (.ref b50), .unset] [])) _
                refine XS.iload X58.here hx rfl (hb hby at_133) rfl ?_
                show Steps p.tables e below (T58.setTop (mkF m 135 #[.val (.int p1), .val (.int p2), .val (.int p3), .val (.int p4), .val (.int (p1 &&& (3 : Int32))), .val (.int (own_f1 p2)), .val (.int (own_f1 p3)), .val (.int (own_f1 p4)), .val (.ref b50), .unset] [(.int (own_f1 p4))])) _
                refine XS.sipush X58.here hx rfl (hb hby at_135) ?_
                show Steps p.tables e below (T58.setTop (mkF m 138 #[.val (.int p1), .val (.int p2), .val (.int p3), .val (.int p4), .val (.int (p1 &&& (3 : Int32))), .val (.int (own_f1 p2)), .val (.int (own_f1 p3)), .val (.int (own_f1 p4)), .val (.ref b50), .unset] [(.int (128 : Int32)), (.int (own_f1 p4))])) _
                by_cases hc138 : (own_f1 p4) < (128 : Int32)
                · (try simp only [if_pos hc138] at kt)
                  refine XS.icmpNo X58.here hx rfl (hb hby at_138) rfl (tlt hc138).2.1 ?_
                  show Steps p.tables e below (T58.setTop (mkF m 141 #[.val (.int p1), .val (.int p2), .val (.int p3), .val (.int p4), .val (.int (p1 &&& (3 : Int32))), .val (.int (own_f1 p2)), .val (.int (own_f1 p3)), .val (.int (own_f1 p4)), .val (.ref b50), .unset] [])) _
                  refine XS.iconst X58.here hx rfl (hb hby at_141) ?_
                  show Steps p.tables e below (T58.setTop (mkF m 142 #[.val (.int p1), .val (.int p2), .val (.int p3), .val (.int p4), .val (.int (p1 &&& (3 : Int32))), .val (.int (own_f1 p2)), .val (.int (own_f1 p3)), .val (.int (own_f1 p4)), .val (.ref b50), .unset] [(.int (1 : Int32))])) _
                  refine XS.goto X58.here hx rfl (pc0 := 142) (pc' := 146) rfl (hb hby at_142) (by decide) (by decide) ?_
                  exact kt
                · (try simp only [if_neg hc138] at kt)
                  refine XS.icmpYes X58.here hx rfl (pc0 := 138) (pc' := 145) rfl (hb hby at_138) rfl (flt hc138).2.1 (by decide) (by decide) ?_
                  show Steps p.tables e below (T58.setTop (mkF m 145 #[.val (.int p1), .val (.int p2), .val (.int p3), .val (.int p4), .val (.int (p1 &&& (3 : Int32))), .val (.int (own_f1 p2)), .val (.int (own_f1 p3)), .val (.int (own_f1 p4)), .val (.ref b50), .unset] [])) _
                  refine XS.iconst X58.here hx rfl (hb hby at_145) ?_
                  exact kt
            · (try simp only [if_neg hc116] at kt)
              refine XS.icmpNo X58.here hx rfl (hb hby at_116) rfl (flt hc116).1 ?_
              show Steps p.tables e below (T58.setTop (mkF m 119 #[.val (.int p1), .val (.int p2), .val (.int p3), .val (.int p4), .val (.int (p1 &&& (3 : Int32))), .val (.int (own_f1 p2)), .val (.int (own_f1 p3)), .val (.int (own_f1 p4)), .val (.ref b50), .unset] [])) _
              refine XS.iload X58.here hx rfl (hb hby at_119) rfl ?_
              show Steps p.tables e below (T58.setTop (mkF m 121 #[.val (.int p1), .val (.int p2), .val (.int p3), .val (.int p4), .val (.int (p1 &&& (3 : Int32))), .val (.int (own_f1 p2)), .val (.int (own_f1 p3)), .val (.int (own_f1 p4)), .val (.ref b50), .unset] [(.int (own_f1 p3))])) _
              refine XS.sipush X58.here hx rfl (hb hby at_121) ?_
              show Steps p.tables e below (T58.setTop (mkF m 124 #[.val (.int p1), .val (.int p2), .val (.int p3), .val (.int p4), .val (.int (p1 &&& (3 : Int32))), .val (.int (own_f1 p2)), .val (.int (own_f1 p3)), .val (.int (own_f1 p4)), .val (.ref b50), .unset] [(.int (128 : Int32)), (.int (own_f1 p3))])) _
              by_cases hc124 : (own_f1 p3) < (128 : Int32)
              · (try simp only [if_pos hc124] at kt)
                refine XS.icmpNo X58.here hx rfl (hb hby at_124) rfl (tlt hc124).2.1 ?_
                show Steps p.tables e below (T58.setTop (mkF m 127 #[.val (.int p1), .val (.int p2), .val (.int p3), .val (.int p4), .val (.int (p1 &&& (3 : Int32))), .val (.int (own_f1 p2)), .val (.int (own_f1 p3)), .val (.int (own_f1 p4)), .val (.ref b50), .unset] [])) _
                refine XS.iload X58.here hx rfl (hb hby at_127) rfl ?_
                show Steps p.tables e below (T58.setTop (mkF m 129 #[.val (.int p1), .val (.int p2), .val (.int p3), .val (.int p4), .val (.int (p1 &&& (3 : Int32))), .val (.int (own_f1 p2)), .val (.int (own_f1 p3)), .val (.int (own_f1 p4)), .val (.ref b50), .unset] [(.int (p1 &&& (3 : Int32)))])) _
                refine XS.iconst X58.here hx rfl (hb hby at_129) ?_
                show Steps p.tables e below (T58.setTop (mkF m 130 #[.val (.int p1), .val (.int p2), .val (.int p3), .val (.int p4), .val (.int (p1 &&& (3 : Int32))), .val (.int (own_f1 p2)), .val (.int (own_f1 p3)), .val (.int (own_f1 p4)), .val (.ref b50), .unset] [(.int (3 : Int32)), (.int (p1 &&& (3 : Int32)))])) _
                by_cases hc130 : (p1 &&& (3 : Int32)) < (3 : Int32)
                · (try simp only [if_pos hc130] at kt)
                  refine XS.icmpYes X58.here hx rfl (pc0 := 130) (pc' := 141) rfl (hb hby at_130) rfl (tlt hc130).1 (by decide) (by decide) ?_
                  show Steps p.tables e below (T58.setTop (mkF m 141 #[.val (.int p1), .val (.int p2), .val (.int p3), .val (.int p4), .val (.int (p1 &&& (3 : Int32))), .val (.int (own_f1 p2)), .val (.int (own_f1 p3)), .val (.int (own_f1 p4)), .val (.ref b50), .unset] [])) _
                  refine XS.iconst X58.here hx rfl (hb hby at_141) ?_
                  show Steps p.tables e below (T58.setTop (mkF m 142 #[.val (.int p1), .val (.int p2), .val (.int p3), .val (.int p4), .val (.int (p1 &&& (3 : Int32))), .val (.int (own_f1 p2)), .val (.int (own_f1 p3)), .val (.int (own_f1 p4)), .val (.ref b50), .unset] [(.int (1 : Int32))])) _
                  refine XS.goto X58.here hx rfl (pc0 := 142) (pc' := 146) rfl (hb hby at_142) (by decide) (by decide) ?_
                  exact kt
                · (try simp only [if_neg hc130] at kt)
                  refine XS.icmpNo X58.here hx rfl (hb hby at_130) rfl (flt hc130).1 ?_
                  show Steps p.tables e below (T58.setTop (mkF m 133 #[.val (.int p1), .val (.int p2), .val (.int p3), .val (.int p4), .val (.int (p1 &&& (3 : Int32))), .val (.int (own_f1 p2)), .val (.int (own_f1 p3)), .val (.int (own_f1 p4)), .val (.ref b50), .unset] [])) _
                  refine XS.iload X58.here hx rfl (hb hby at_133) rfl ?_
                  show Steps p.tables e below (T58.setTop (mkF m 135 #[.val (.int p1), .val (.int p2), .val (.int p3), .val (.int p4), .val (.int (p1 &&& (3 : Int32))), .val (.int (own_f1 p2)), .val (.int (own_f1 p3)), .val (.int (own_f1 p4)), .val (.ref b50), .unset] [(.int (own_f1 p4))])) _
                  refine XS.sipush X58.here hx rfl (hb hby at_135) ?_
                  show Steps p.tables e below (T58.setTop (mkF m 138 #[.val (.int p1), .val (.int p2), .val (.int p3), .val (.int p4), .val (.int (p1 &&& (3 : Int32))), .val (.int (own_f1 p2)), .val (.int (own_f1 p3)), .val (.int (own_f1 p4)), .val (.ref b50), .unset] [(.int (128 : Int32)), (.int (own_f1 p4))])) _
                  by_cases hc138 : (own_f1 p4) < (128 : Int32)
                  · (try simp only [if_pos hc138] at kt)
                    refine XS.icmpNo X58.here hx rfl (hb hby at_138) rfl (tlt hc138).2.1 ?_
                    show Steps p.tables e below (T58.setTop (mkF m 141 #[.val (.int p1), .val (.int p2), .val (.int p3), .val (.int p4), .val (.int (p1 &&& (3 : Int32))), .val (.int (own_f1 p2)), .val (.int (own_f1 p3)), .val (.int (own_f1 p4)), .val (.ref b50), .unset] [])) _
                    refine XS.iconst X58.here hx rfl (hb hby at_141) ?_
                    show Steps p.tables e below (T58.setTop (mkF m 142 #[.val (.int p1), .val (.int p2), .val (.int p3), .val (.int p4), .val (.int (p1 &&& (3 : Int32))), .val (.int (own_f1 p2)), .val (.int (own_f1 p3)), .val (.int (own_f1 p4)), .val (.ref b50), .unset] [(.int (1 : Int32))])) _
                    refine XS.goto X58.here hx rfl (pc0 := 142) (pc' := 146) rfl (hb hby at_142) (by decide) (by decide) ?_
                    exact kt
                  · (try simp only [if_neg hc138] at kt)
                    refine XS.icmpYes X58.here hx rfl (pc0 := 138) (pc' := 145) rfl (hb hby at_138) rfl (flt hc138).2.1 (by decide) (by decide) ?_
                    show Steps p.tables e below (T58.setTop (mkF m 145 #[.val (.int p1), .val (.int p2), .val (.int p3), .val (.int p4), .val (.int (p1 &&& (3 : Int32))), .val (.int (own_f1 p2)), .val (.int (own_f1 p3)), .val (.int (own_f1 p4)), .val (.ref b50), .unset] [])) _
                    refine XS.iconst X58.here hx rfl (hb hby at_145) ?_
                    exact kt
              · (try simp only [if_neg hc124] at kt)
                refine XS.icmpYes X58.here hx rfl (pc0 := 124) (pc' := 145) rfl (hb hby at_124) rfl (flt hc124).2.1 (by decide) (by decide) ?_
                show Steps p.tables e below (T58.setTop (mkF m 145 #[.val (.int p1), .val (.int p2), .val (.int p3), .val (.int p4), .val (.int (p1 &&& (3 : Int32))), .val (.int (own_f1 p2)), .val (.int (own_f1 p3)), .val (.int (own_f1 p4)), .val (.ref b50), .unset] [])) _
                refine XS.iconst X58.here hx rfl (hb hby at_145) ?_
                exact kt
          · (try simp only [if_neg hc102] at kt)
            refine XS.icmpNo X58.here hx rfl (hb hby at_102) rfl (flt hc102).1 ?_
            show Steps p.tables e below (T58.setTop (mkF m 105 #[.val (.int p1), .val (.int p2), .val (.int p3), .val (.int p4), .val (.int (p1 &&& (3 : Int32))), .val (.int (own_f1 p2)), .val (.int (own_f1 p3)), .val (.int (own_f1 p4)), .val (.ref b50), .unset] [])) _
            refine XS.iload X58.here hx rfl (hb hby at_105) rfl ?_
            show Steps p.tables e below (T58.setTop (mkF m 107 #[.val (.int p1), .val (.int p2), .val (.int p3), .val (.int p4), .val (.int (p1 &&& (3 : Int32))), .val (.int (own_f1 p2)), .val (.int (own_f1 p3)), .val (.int (own_f1 p4)), .val (.ref b50), .unset] [(.int (own_f1 p2))])) _
            refine XS.sipush X58.here hx rfl (hb hby at_107) ?_
            show Steps p.tables e below (T58.setTop (mkF m 110 #[.val (.int p1), .val (.int p2), .val (.int p3), .val (.int p4), .val (.int (p1 &&& (3 : Int32))), .val (.int (own_f1 p2)), .val (.int (own_f1 p3)), .val (.int (own_f1 p4)), .val (.ref b50), .unset] [(.int (128 : Int32)), (.int (own_f1 p2))])) _
            by_cases hc110 : (own_f1 p2) < (128 : Int32)
            · (try simp only [if_pos hc110] at kt)
              refine XS.icmpNo X58.here hx rfl (hb hby at_110) rfl (tlt hc110).2.1 ?_
              show Steps p.tables e below (T58.setTop (mkF m 113 #[.val (.int p1), .val (.int p2), .val (.int p3), .val (.int p4), .val (.int (p1 &&& (3 : Int32))), .val (.int (own_f1 p2)), .val (.int (own_f1 p3)), .val (.int (own_f1 p4)), .val (.ref b50), .unset] [])) _
              refine XS.iload X58.here hx rfl (hb hby at_113) rfl ?_
              show Steps p.tables e below (T58.setTop (mkF m 115 #[.val (.int p1), .val (.int p2), .val (.int p3), .val (.int p4), .val (.int (p1 &&& (3 : Int32))), .val (.int (own_f1 p2)), .val (.int (own_f1 p3)), .val (.int (own_f1 p4)), .val (.ref b50), .unset] [(.int (p1 &&& (3 : Int32)))])) _
              refine XS.iconst X58.here hx rfl (hb hby at_115) ?_
              show Steps p.tables e below (T58.setTop (mkF m 116 #[.val (.int p1), .val (.int p2), .val (.int p3), .val (.int p4), .val (.int (p1 &&& (3 : Int32))), .val (.int (own_f1 p2)), .val (.int (own_f1 p3)), .val (.int (own_f1 p4)), .val (.ref b50), .unset] [(.int (2 : Int32)), (.int (p1 &&& (3 : Int32)))])) _
              by_cases hc116 : (p1 &&& (3 : Int32)) < (2 : Int32)
              · (try simp only [if_pos hc116] at kt)
                refine XS.icmpYes X58.here hx rfl (pc0 := 116) (pc' := 127) rfl (hb hby at_116) rfl (tlt hc116).1 (by decide) (by decide) ?_
                show Steps p.tables e below (T58.setTop (mkF m 127 #[.val (.int p1), .val (.int p2), .val (.int p3), .val (.int p4), .val (.int (p1 &&& (3 : Int32))), .val (.int (own_f1 p2)), .val (.int (own_f1 p3)), .val (.int (own_f1 p4)), .val (.ref b50), .unset] [])) _
                refine XS.iload X58.here hx rfl (hb hby at_127) rfl ?_
                show Steps p.tables e below (T58.setTop (mkF m 129 #[.val (.int p1), .val (.int p2), .val (.int p3), .val (.int p4), .val (.int (p1 &&& (3 : Int32))), .val (.int (own_f1 p2)), .val (.int (own_f1 p3)), .val (.int (own_f1 p4)), .val (.ref b50), .unset] [(.int (p1 &&& (3 : Int32)))])) _
                refine XS.iconst X58.here hx rfl (hb hby at_129) ?_
                show Steps p.tables e below (T58.setTop (mkF m 130 #[.val (.int p1), .val (.int p2), .val (.int p3), .val (.int p4), .val (.int (p1 &&& (3 : Int32))), .val (.int (own_f1 p2)), .val (.int (own_f1 p3)), .val (.int (own_f1 p4)), .val (.ref b50), .unset] [(.int (3 : Int32)), (.int (p1 &&& (3 : Int32)))])) _
                by_cases hc130 : (p1 &&& (3 : Int32)) < (3 : Int32)
                · (try simp only [if_pos hc130] at kt)
                  refine XS.icmpYes X58.here hx rfl (pc0 := 130) (pc' := 141) rfl (hb hby at_130) rfl (tlt hc130).1 (by decide) (by decide) ?_
                  show Steps p.tables e below (T58.setTop (mkF m 141 #[.val (.int p1), .val (.int p2), .val (.int p3), .val (.int p4), .val (.int (p1 &&& (3 : Int32))), .val (.int (own_f1 p2)), .val (.int (own_f1 p3)), .val (.int (own_f1 p4)), .val (.ref b50), .unset] [])) _
                  refine XS.iconst X58.here hx rfl (hb hby at_141) ?_
                  show Steps p.tables e below (T58.setTop (mkF m 142 #[.val (.int p1), .val (.int p2), .val (.int p3), .val (.int p4), .val (.int (p1 &&& (3 : Int32))), .val (.int (own_f1 p2)), .val (.int (own_f1 p3)), .val (.int (own_f1 p4)), .val (.ref b50), .unset] [(.int (1 : Int32))])) _
                  refine XS.goto X58.here hx rfl (pc0 := 142) (pc' := 146) rfl (hb hby at_142) (by decide) (by decide) ?_
                  exact kt
                · (try simp only [if_neg hc130] at kt)
                  refine XS.icmpNo X58.here hx rfl (hb hby at_130) rfl (flt hc130).1 ?_
                  show Steps p.tables e below (T58.setTop (mkF m 133 #[.val (.int p1), .val (.int p2), .val (.int p3), .val (.int p4), .val (.int (p1 &&& (3 : Int32))), .val (.int (own_f1 p2)), .val (.int (own_f1 p3)), .val (.int (own_f1 p4)), .val (.ref b50), .unset] [])) _
                  refine XS.iload X58.here hx rfl (hb hby at_133) rfl ?_
                  show Steps p.tables e below (T58.setTop (mkF m 135 #[.val (.int p1), .val (.int p2), .val (.int p3), .val (.int p4), .val (.int (p1 &&& (3 : Int32))), .val (.int (own_f1 p2)), .val (.int (own_f1 p3)), .val (.int (own_f1 p4)), .val (.ref b50), .unset] [(.int (own_f1 p4))])) _
                  refine XS.sipush X58.here hx rfl (hb hby at_135) ?_
                  show Steps p.tables e below (T58.setTop (mkF m 138 #[.val (.int p1), .val (.int p2), .val (.int p3), .val (.int p4), .val (.int (p1 &&& (3 : Int32))), .val (.int (own_f1 p2)), .val (.int (own_f1 p3)), .val (.int (own_f1 p4)), .val (.ref b50), .unset] [(.int (128 : Int32)), (.int (own_f1 p4))])) _
                  by_cases hc138 : (own_f1 p4) < (128 : Int32)
                  · (try simp only [if_pos hc138] at kt)
                    refine XS.icmpNo X58.here hx rfl (hb hby at_138) rfl (tlt hc138).2.1 ?_
                    show Steps p.tables e below (T58.setTop (mkF m 141 #[.val (.int p1), .val (.int p2), .val (.int p3), .val (.int p4), .val (.int (p1 &&& (3 : Int32))), .val (.int (own_f1 p2)), .val (.int (own_f1 p3)), .val (.int (own_f1 p4)), .val (.ref b50), .unset] [])) _
                    refine XS.iconst X58.here hx rfl (hb hby at_141) ?_
                    show Steps p.tables e below (T58.setTop (mkF m 142 #[.val (.int p1), .val (.int p2), .val (.int p3), .val (.int p4), .val (.int (p1 &&& (3 : Int32))), .val (.int (own_f1 p2)), .val (.int (own_f1 p3)), .val (.int (own_f1 p4)), .val (.ref b50), .unset] [(.int (1 : Int32))])) _
                    refine XS.goto X58.here hx rfl (pc0 := 142) (pc' := 146) rfl (hb hby at_142) (by decide) (by decide) ?_
                    exact kt
                  · (try simp only [if_neg hc138] at kt)
                    refine XS.icmpYes X58.here hx rfl (pc0 := 138) (pc' := 145) rfl (hb hby at_138) rfl (flt hc138).2.1 (by decide) (by decide) ?_
                    show Steps p.tables e below (T58.setTop (mkF m 145 #[.val (.int p1), .val (.int p2), .val (.int p3), .val (.int p4), .val (.int (p1 &&& (3 : Int32))), .val (.int (own_f1 p2)), .val (.int (own_f1 p3)), .val (.int (own_f1 p4)), .val (.ref b50), .unset] [])) _
                    refine XS.iconst X58.here hx rfl (hb hby at_145) ?_
                    exact kt
              · (try simp only [if_neg hc116] at kt)
                refine XS.icmpNo X58.here hx rfl (hb hby at_116) rfl (flt hc116).1 ?_
                show Steps p.tables e below (T58.setTop (mkF m 119 #[.val (.int p1), .val (.int p2), .val (.int p3), .val (.int p4), .val (.int (p1 &&& (3 : Int32))), .val (.int (own_f1 p2)), .val (.int (own_f1 p3)), .val (.int (own_f1 p4)), .val (.ref b50), .unset] [])) _
                refine XS.iload X58.here hx rfl (hb hby at_119) rfl ?_
                show Steps p.tables e below (T58.setTop (mkF m 121 #[.val (.int p1), .val (.int p2), .val (.int p3), .val (.int p4), .val (.int (p1 &&& (3 : Int32))), .val (.int (own_f1 p2)), .val (.int (own_f1 p3)), .val (.int (own_f1 p4)), .val (.ref b50), .unset] [(.int (own_f1 p3))])) _
                refine XS.sipush X58.here hx rfl (hb hby at_121) ?_
                show Steps p.tables e below (T58.setTop (mkF m 124 #[.val (.int p1), .val (.int p2), .val (.int p3), .val (.int p4), .val (.int (p1 &&& (3 : Int32))), .val (.int (own_f1 p2)), .val (.int (own_f1 p3)), .val (.int (own_f1 p4)), .val (.ref b50), .unset] [(.int (128 : Int32)), (.int (own_f1 p3))])) _
                by_cases hc124 : (own_f1 p3) < (128 : Int32)
                · (try simp only [if_pos hc124] at kt)
                  refine XS.icmpNo X58.here hx rfl (hb hby at_124) rfl (tlt hc124).2.1 ?_
                  show Steps p.tables e below (T58.setTop (mkF m 127 #[.val (.int p1), .val (.int p2), .val (.int p3), .val (.int p4), .val (.int (p1 &&& (3 : Int32))), .val (.int (own_f1 p2)), .val (.int (own_f1 p3)), .val (.int (own_f1 p4)), .val (.ref b50), .unset] [])) _
                  refine XS.iload X58.here hx rfl (hb hby at_127) rfl ?_
                  show Steps p.tables e below (T58.setTop (mkF m 129 #[.val (.int p1), .val (.int p2), .val (.int p3), .val (.int p4), .val (.int (p1 &&& (3 : Int32))), .val (.int (own_f1 p2)), .val (.int (own_f1 p3)), .val (.int (own_f1 p4)), .val (.ref b50), .unset] [(.int (p1 &&& (3 : Int32)))])) _
                  refine XS.iconst X58.here hx rfl (hb hby at_129) ?_
                  show Steps p.tables e below (T58.setTop (mkF m 130 #[.val (.int p1), .val (.int p2), .val (.int p3), .val (.int p4), .val (.int (p1 &&& (3 : Int32))), .val (.int (own_f1 p2)), .val (.int (own_f1 p3)), .val (.int (own_f1 p4)), .val (.ref b50), .unset] [(.int (3 : Int32)), (.int (p1 &&& (3 : Int32)))])) _
                  by_cases hc130 : (p1 &&& (3 : Int32)) < (3 : Int32)
                  · (try simp only [if_pos hc130] at kt)
                    refine XS.icmpYes X58.here hx rfl (pc0 := 130) (pc' := 141) rfl (hb hby at_130) rfl (tlt hc130).1 (by decide) (by decide) ?_
                    show Steps p.tables e below (T58.setTop (mkF m 141 #[.val (.int p1), .val (.int p2), .val (.int p3), .val (.int p4), .val (.int (p1 &&& (3 : Int32))), .val (.int (own_f1 p2)), .val (.int (own_f1 p3)), .val (.int (own_f1 p4)), .val (.ref b50), .unset] [])) _
                    refine XS.iconst X58.here hx rfl (hb hby at_141) ?_
                    show Steps p.tables e below (T58.setTop (mkF m 142 #[.val (.int p1), .val (.int p2), .val (.int p3), .val (.int p4), .val (.int (p1 &&& (3 : Int32))), .val (.int (own_f1 p2)), .val (.int (own_f1 p3)), .val (.int (own_f1 p4)), .val (.ref b50), .unset] [(.int (1 : Int32))])) _
                    refine XS.goto X58.here hx rfl (pc0 := 142) (pc' := 146) rfl (hb hby at_142) (by decide) (by decide) ?_
                    exact kt
                  · (try simp only [if_neg hc130] at kt)
                    refine XS.icmpNo X58.here hx rfl (hb hby at_130) rfl (flt hc130).1 ?_
                    show Steps p.tables e below (T58.setTop (mkF m 133 #[.val (.int p1), .val (.int p2), .val (.int p3), .val (.int p4), .val (.int (p1 &&& (3 : Int32))), .val (.int (own_f1 p2)), .val (.int (own_f1 p3)), .val (.int (own_f1 p4)), .val (.ref b50), .unset] [])) _
                    refine XS.iload X58.here hx rfl (hb hby at_133) rfl ?_
                    show Steps p.tables e below (T58.setTop (mkF m 135 #[.val (.int p1), .val (.int p2), .val (.int p3), .val (.int p4), .val (.int (p1 &&& (3 : Int32))), .val (.int (own_f1 p2)), .val (.int (own_f1 p3)), .val (.int (own_f1 p4)), .val (.ref b50), .unset] [(.int (own_f1 p4))])) _
                    refine XS.sipush X58.here hx rfl (hb hby at_135) ?_
                    show Steps p.tables e below (T58.setTop (mkF m 138 #[.val (.int p1), .val (.int p2), .val (.int p3), .val (.int p4), .val (.int (p1 &&& (3 : Int32))), .val (.int (own_f1 p2)), .val (.int (own_f1 p3)), .val (.int (own_f1 p4)), .val (.ref b50), .unset] [(.int (128 : Int32)), (.int (own_f1 p4))])) _
                    by_cases hc138 : (own_f1 p4) < (128 : Int32)
                    · (try simp only [if_pos hc138] at kt)
                      refine XS.icmpNo X58.here hx rfl (hb hby at_138) rfl (tlt hc138).2.1 ?_
                      show Steps p.tables e below (T58.setTop (mkF m 141 #[.val (.int p1), .val (.int p2), .val (.int p3), .val (.int p4), .val (.int (p1 &&& (3 : Int32))), .val (.int (own_f1 p2)), .val (.int (own_f1 p3)), .val (.int (own_f1 p4)), .val (.ref b50), .unset] [])) _
                      refine XS.iconst X58.here hx rfl (hb hby at_141) ?_
                      show Steps p.tables e below (T58.setTop (mkF m 142 #[.val (.int p1), .val (.int p2), .val (.int p3), .val (.int p4), .val (.int (p1 &&& (3 : Int32))), .val (.int (own_f1 p2)), .val (.int (own_f1 p3)), .val (.int (own_f1 p4)), .val (.ref b50), .unset] [(.int (1 : Int32))])) _
                      refine XS.goto X58.here hx rfl (pc0 := 142) (pc' := 146) rfl (hb hby at_142) (by decide) (by decide) ?_
                      exact kt
                    · (try simp only [if_neg hc138] at kt)
                      refine XS.icmpYes X58.here hx rfl (pc0 := 138) (pc' := 145) rfl (hb hby at_138) rfl (flt hc138).2.1 (by decide) (by decide) ?_
                      show Steps p.tables e below (T58.setTop (mkF m 145 #[.val (.int p1), .val (.int p2), .val (.int p3), .val (.int p4), .val (.int (p1 &&& (3 : Int32))), .val (.int (own_f1 p2)), .val (.int (own_f1 p3)), .val (.int (own_f1 p4)), .val (.ref b50), .unset] [])) _
                      refine XS.iconst X58.here hx rfl (hb hby at_145) ?_
                      exact kt
                · (try simp only [if_neg hc124] at kt)
                  refine XS.icmpYes X58.here hx rfl (pc0 := 124) (pc' := 145) rfl (hb hby at_124) rfl (flt hc124).2.1 (by decide) (by decide) ?_
                  show Steps p.tables e below (T58.setTop (mkF m 145 #[.val (.int p1), .val (.int p2), .val (.int p3), .val (.int p4), .val (.int (p1 &&& (3 : Int32))), .val (.int (own_f1 p2)), .val (.int (own_f1 p3)), .val (.int (own_f1 p4)), .val (.ref b50), .unset] [])) _
                  refine XS.iconst X58.here hx rfl (hb hby at_145) ?_
                  exact kt
            · (try simp only [if_neg hc110] at kt)
              refine XS.icmpYes X58.here hx rfl (pc0 := 110) (pc' := 145) rfl (hb hby at_110) rfl (flt hc110).2.1 (by decide) (by decide) ?_
              show Steps p.tables e below (T58.setTop (mkF m 145 #[.val (.int p1), .val (.int p2), .val (.int p3), .val (.int p4), .val (.int (p1 &&& (3 : Int32))), .val (.int (own_f1 p2)), .val (.int (own_f1 p3)), .val (.int (own_f1 p4)), .val (.ref b50), .unset] [])) _
              refine XS.iconst X58.here hx rfl (hb hby at_145) ?_
              exact kt
        have pre62 : ∀ t, Steps p.tables e below (T58.setTop (mkF m 150 #[.val (.int p1), .val (.int p2), .val (.int p3), .val (.int p4), .val (.int (p1 &&& (3 : Int32))), .val (.int (own_f1 p2)), .val (.int (own_f1 p3)), .val (.int (own_f1 p4)), .val (.ref b50), .val (.int v61_0)] [(.ref b50)])) t → Steps p.tables e below (s₁.setTop (entryFrame m #[(.int p1), (.int p2), (.int p3), (.int p4)] maxLocals)) t := by
          intro t kt
          refine pre61 t ?_
          show Steps p.tables e below (T58.setTop (mkF m 146 #[.val (.int p1), .val (.int p2), .val (.int p3), .val (.int p4), .val (.int (p1 &&& (3 : Int32))), .val (.int (own_f1 p2)), .val (.int (own_f1 p3)), .val (.int (own_f1 p4)), .val (.ref b50), .unset] [(.int v61_0)])) _
          refine XS.istore X58.here hx rfl (hb hby at_146) rfl (l' := #[.val (.int p1), .val (.int p2), .val (.int p3), .val (.int p4), .val (.int (p1 &&& (3 : Int32))), .val (.int (own_f1 p2)), .val (.int (own_f1 p3)), .val (.int (own_f1 p4)), .val (.ref b50), .val (.int v61_0)]) rfl ?_
          show Steps p.tables e below (T58.setTop (mkF m 148 #[.val (.int p1), .val (.int p2), .val (.int p3), .val (.int p4), .val (.int (p1 &&& (3 : Int32))), .val (.int (own_f1 p2)), .val (.int (own_f1 p3)), .val (.int (own_f1 p4)), .val (.ref b50), .val (.int v61_0)] [])) _
          refine XS.aload X58.here hx rfl (hb hby at_148) rfl rfl ?_
          exact kt
        obtain ⟨_, _, ⟨T63, L63, k63, n63⟩, -, X63, ⟨Lc63, hQ63, l63, y63, z63⟩, st63⟩ := Jvm.LawKit.callS X58 hx (y := (⟨own_k9, "isAscii", "([I)Z"⟩ : MethodName)) hown (mvT hZ (hw _ (List.mem_of_getElem? (i := 7) rfl))) (mvT hZ (hw _ (List.mem_of_getElem? (i := 8) rfl))) (mvT hZ (hw _ (List.mem_of_getElem? (i := 9) rfl))) (mvT hZ (hw _ (List.mem_of_getElem? (i := 10) rfl))) (by decide) (backOf (W := 0) (rm2_3 l Z a0 hw [] b50 k50 (own_f1 p2) (own_f1 p3) (own_f1 p4) h58 n0 Z58 V_b50_58') hZ (hw _ (List.mem_of_getElem? (i := 10) rfl)) (hw _ (List.mem_of_getElem? (i := 9) rfl)) (by decide) (by decide)) (g := (mkF m 150 #[.val (.int p1), .val (.int p2), .val (.int p3), .val (.int p4), .val (.int (p1 &&& (3 : Int32))), .val (.int (own_f1 p2)), .val (.int (own_f1 p3)), .val (.int (own_f1 p4)), .val (.ref b50), .val (.int v61_0)] [(.ref b50)])) rfl (by rw [hml]; rfl) (argsL := [(.ref b50)]) (rest := []) (lenOf pd_1 rfl) rfl (by show 2 * 0 + _ ≤ _; exact Nat.le_of_eq rfl) (hb hby at_150) (fun _ _ => ⟨rfl, e58, (by decide : 1 + 0 ≤ _), (by decide : 3 + 0 ≤ _)⟩)
        dsimp only [Pt.U, Pt.locs, Pt.cells, Pt.slots] at X63 l63 y63 z63 st63 hQ63
        subst l63 y63 z63
        obtain ⟨rfl, N63q, e63⟩ := hQ63
        have N63 := Fr.app N58 N63q
        have pre63 : ∀ t, Steps p.tables e below (T63.setTop (mkF m 153 #[.val (.int p1), .val (.int p2), .val (.int p3), .val (.int p4), .val (.int (p1 &&& (3 : Int32))), .val (.int (own_f1 p2)), .val (.int (own_f1 p3)), .val (.int (own_f1 p4)), .val (.ref b50), .val (.int v61_0)] [(.int (if (own_f1 p2) < (128 : Int32) then (if (own_f1 p3) < (128 : Int32) then (if (own_f1 p4) < (128 : Int32) then (1 : Int32) else (0 : Int32)) else (0 : Int32)) else (0 : Int32)))])) t → Steps p.tables e below (s₁.setTop (entryFrame m #[(.int p1), (.int p2), (.int p3), (.int p4)] maxLocals)) t := fun t kt => pre62 t (st63 _ kt)
        have pre64 : ∀ t, Steps p.tables e below (T63.setTop (mkF m 155 #[.val (.int p1), .val (.int p2), .val (.int p3), .val (.int p4), .val (.int (p1 &&& (3 : Int32))), .val (.int (own_f1 p2)), .val (.int (own_f1 p3)), .val (.int (own_f1 p4)), .val (.ref b50), .val (.int v61_0)] [(.int v61_0), (.int (if (own_f1 p2) < (128 : Int32) then (if (own_f1 p3) < (128 : Int32) then (if (own_f1 p4) < (128 : Int32) then (1 : Int32) else (0 : Int32)) else (0 : Int32)) else (0 : Int32)))])) t → Steps p.tables e below (s₁.setTop (entryFrame m #[(.int p1), (.int p2), (.int p3), (.int p4)] maxLocals)) t := by
          intro t kt
          refine pre63 t ?_
          show Steps p.tables e below (T63.setTop (mkF m 153 #[.val (.int p1), .val (.int p2), .val (.int p3), .val (.int p4), .val (.int (p1 &&& (3 : Int32))), .val (.int (own_f1 p2)), .val (.int (own_f1 p3)), .val (.int (own_f1 p4)), .val (.ref b50), .val (.int v61_0)] [(.int (if (own_f1 p2) < (128 : Int32) then (if (own_f1 p3) < (128 : Int32) then (if (own_f1 p4) < (128 : Int32) then (1 : Int32) else (0 : Int32)) else (0 : Int32)) else (0 : Int32)))])) _
          refine XS.iload X63.here hx rfl (hb hby at_153) rfl ?_
          exact kt
        obtain ⟨v65_0, hv65_0, pre65⟩ : ∃ (v65_0 : Int32), v65_0 = (if (if (own_f1 p2) < (128 : Int32) then (if (own_f1 p3) < (128 : Int32) then (if (own_f1 p4) < (128 : Int32) then (1 : Int32) else (0 : Int32)) else (0 : Int32)) else (0 : Int32)) = v61_0 then (1 : Int32) else (0 : Int32)) ∧ ∀ t, Steps p.tables e below (T63.setTop (mkF m 163 #[.val (.int p1), .val (.int p2), .val (.int p3), .val (.int p4), .val (.int (p1 &&& (3 : Int32))), .val (.int (own_f1 p2)), .val (.int (own_f1 p3)), .val (.int (own_f1 p4)), .val (.ref b50), .val (.int v61_0)] [(.int v65_0)])) t → Steps p.tables e below (s₁.setTop (entryFrame m #[(.int p1), (.int p2), (.int p3), (.int p4)] maxLocals)) t := by
          refine ⟨_, rfl, ?_⟩
          intro t kt
          refine pre64 t ?_
          show Steps p.tables e below (T63.setTop (mkF m 155 #[.val (.int p1), .val (.int p2), .val (.int p3), .val (.int p4), .val (.int (p1 &&& (3 : Int32))), .val (.int (own_f1 p2)), .val (.int (own_f1 p3)), .val (.int (own_f1 p4)), .val (.ref b50), .val (.int v61_0)] [(.int v61_0), (.int (if (own_f1 p2) < (128 : Int32) then (if (own_f1 p3) < (128 : Int32) then (if (own_f1 p4) < (128 : Int32) then (1 : Int32) else (0 : Int32)) else (0 : Int32)) else (0 : Int32)))])) _
          by_cases hc155 : (if (own_f1 p2) < (128 : Int32) then (if (own_f1 p3) < (128 : Int32) then (if (own_f1 p4) < (128 : Int32) then (1 : Int32) else (0 : Int32)) else (0 : Int32)) else (0 : Int32)) = v61_0
          · (try simp only [if_pos hc155] at kt)
            refine XS.icmpNo X63.here hx rfl (hb hby at_155) rfl (teq hc155).2 ?_
            show Steps p.tables e below (T63.setTop (mkF m 158 #[.val (.int p1), .val (.int p2), .val (.int p3), .val (.int p4), .val (.int (p1 &&& (3 : Int32))), .val (.int (own_f1 p2)), .val (.int (own_f1 p3)), .val (.int (own_f1 p4)), .val (.ref b50), .val (.int v61_0)] [])) _
            refine XS.iconst X63.here hx rfl (hb hby at_158) ?_
            show Steps p.tables e below (T63.setTop (mkF m 159 #[.val (.int p1), .val (.int p2), .val (.int p3), .val (.int p4), .val (.int (p1 &&& (3 : Int32))), .val (.int (own_f1 p2)), .val (.int (own_f1 p3)), .val (.int (own_f1 p4)), .val (.ref b50), .val (.int v61_0)] [(.int (1 : Int32))])) _
            refine XS.goto X63.here hx rfl (pc0 := 159) (pc' := 163) rfl (hb hby at_159) (by decide) (by decide) ?_
            exact kt
          · (try simp only [if_neg hc155] at kt)
            refine XS.icmpYes X63.here hx rfl (pc0 := 155) (pc' := 162) rfl (hb hby at_155) rfl (feq hc155).2 (by decide) (by decide) ?_
            show Steps p.tables e below (T63.setTop (mkF m 162 #[.val (.int p1), .val (.int p2), .val (.int p3), .val (.int p4), .val (.int (p1 &&& (3 : Int32))), .val (.int (own_f1 p2)), .val (.int (own_f1 p3)), .val (.int (own_f1 p4)), .val (.ref b50), .val (.int v61_0)] [])) _
            refine XS.iconst X63.here hx rfl (hb hby at_162) ?_
            exact kt
        have hfin : v65_0 = 1 := by
          have hn : (p1 &&& (3 : Int32)) = 3 := (by rcases own_and3 p1 with h | h | h | h; exact absurd h hc25; exact absurd h hc39; exact absurd h hc58; exact h)
          simp only [hv65_0, hv61_0, hn]
          by_cases ha : (own_f1 p2) < (128 : Int32) <;> by_cases hb : (own_f1 p3) < (128 : Int32) <;> by_cases hc : (own_f1 p4) < (128 : Int32) <;> simp [ha, hb, hc]
        obtain ⟨fs, hr, hrun, hended, hW, hsame⟩ := X63.leave (v := some (.int (1 : Int32))) (fun h => by rw [Bd.returns] at h; cases h)
        refine ⟨_, _, pre65 _ ?_, hrun, hended, _, _, rfl, ?_, ⟨_, rfl⟩, hW, hsame.mono (by decide) (by decide)⟩
        · show Steps p.tables e below (T63.setTop (mkF m 163 #[.val (.int p1), .val (.int p2), .val (.int p3), .val (.int p4), .val (.int (p1 &&& (3 : Int32))), .val (.int (own_f1 p2)), .val (.int (own_f1 p3)), .val (.int (own_f1 p4)), .val (.ref b50), .val (.int v61_0)] [(.int v65_0)])) _
          rw [hfin]
          exact retN X63 hx (t := .boolean) Bd.returns (by simp) (hb hby at_163) hr
        · show Q0 n0 _ T63.heap _
          rw [e63]
          exact ⟨rfl, N63⟩
set_option maxRecDepth 65536 in
set_option maxHeartbeats 40000000 in
theorem comes_1 {Post : Tables → Env → Array Value → State → Outcome → State → Prop} (hpost : ∀ tb e args s v u, (limb_1_1.after args s (.returned v) u = true ∧ limb_1_2.after args s (.returned v) u = true ∧ True) → FrameEnd s (.returned v) u (Jvm.fieldLocs frame_1_writes args s ++ Jvm.arrayLocs frame_1_arrays args s ++ Jvm.staticLocs frame_1_statics s) 16 128 → Post tb e args s (.returned v) u) :
    ArmFor flags0 classFile x code maxLocals ret World_1 tables_1 room_1 Calls_1 rest_1 Pre_1 Post := by
  intro l hfl _ _ p e ha hc hk s m args below hf hA hF happ hP
  obtain ⟨hcalls, hrest, hpre⟩ := hP
  obtain ⟨-, -, -, hnamed, -, -, -, hat⟩ := (Spec.applies_iff hf).mp happ
  obtain ⟨hg, hn⟩ := and_e (Cond.before_iff.mp (show (Jvm.Cond.and given_1 narrow_1).before args s = true from hpre))
  obtain ⟨g1, g2⟩ := and_e hg
  obtain ⟨g3, g4⟩ := and_e g2
  obtain ⟨g5, g6⟩ := and_e g4
  obtain ⟨g7, g8⟩ := and_e g6
  obtain ⟨w0, w1, w2, w3, rfl⟩ : ∃ w0 w1 w2 w3 : Value, args = #[w0, w1, w2, w3] := by
    have hs : args.size = 4 := by simpa [Cond.value, given_1] using g1
    obtain ⟨L⟩ := args
    match L, hs with
    | [w0, w1, w2, w3], _ => exact ⟨w0, w1, w2, w3, rfl⟩
  have hw := fun d (hd : d ∈ tables_1) => atoms_spec (ws := Jvm.Cond.code x code maxLocals ret :: tables_1) hat d (List.mem_cons_of_mem _ hd)
  have hfit : Fit s := fun {y c} hc i hi => by
    obtain ⟨ha, rfl⟩ := Array.getElem?_eq_some_iff.mp hc
    have q := List.all_eq_true.mp ((Array.all_eq_true_iff_forall_mem.mp hF) _ (Array.getElem_mem ha)) i (List.mem_range.mpr hi)
    simpa [Array.getElem?_eq_getElem hi] using q
  obtain ⟨i0, ei0⟩ := is_v g3
  obtain rfl : w0 = (.int i0) := Option.some.inj ei0
  obtain ⟨i1, ei1⟩ := is_v g5
  obtain rfl : w1 = (.int i1) := Option.some.inj ei1
  obtain ⟨i2, ei2⟩ := is_v g7
  obtain rfl : w2 = (.int i2) := Option.some.inj ei2
  obtain ⟨i3, ei3⟩ := is_v g8
  obtain rfl : w3 = (.int i3) := Option.some.inj ei3
  obtain ⟨n, o, h1, h2, h3, _, L, rfl, ⟨rfl, N⟩, hq⟩ := rm0 l s _ hw tables_1 i0 i1 i2 i3  s.heap s.heap.size (Nat.le_refl _)  p e ha hc hk s m _ below hf ((Spec.applies_iff_loose hf).mp happ).1 ⟨rfl, State.Warmed39.refl s, rfl⟩ trivial
  refine ⟨n, _, h1, h2, h3, hpost _ _ _ _ _ _ ⟨Cond.after_iff.mpr rfl, Cond.after_iff.mpr (eq_i res_at (Term.int_eval (1)) rfl), trivial⟩ ⟨hq.1, hq.2.1, (hq.2.2.sift fun y hy => Or.inr (N y hy)).mono (by decide) (by decide)⟩⟩
theorem main_1_1 : Claimed_1_1 := comes_1 fun _ _ _ _ _ _ h hF => ⟨h.1, hF⟩
theorem main_1_2 : Claimed_1_2 := comes_1 fun _ _ _ _ _ _ h hF => ⟨h.2.1, hF⟩
end Jvm.Pilot.@@N@@
namespace Jvm.Pilot.@@N@@
open Jvm Jvm.ClassFile Sem Op Lib Jvm.Free Jvm.Stand Jvm.Pilot.@@N@@.Jvm.D
/-! MADE BY PROGRAM (witnessworld.py) out of the Statement's table words and the real class files: 9 classes; the members and pool entries that the words name. The judged class is class 1, her method 2. -/
namespace start1
open Jvm.ClassFile
def u (s : String) : CpInfo := .utf8 (stringToUtf16 s)
/-- a pool by its gaps: so many unusable entries, then the entry; so many at the end -/
def gap : Nat → List CpInfo → List CpInfo
  | 0, r => r
  | n + 1, r => .unusable :: gap n r
def poolList (es : List (Nat × CpInfo)) (last : Nat) : List CpInfo := es.foldr (fun e r => gap e.1 (e.2 :: r)) (gap last [])
def pool (es : List (Nat × CpInfo)) (last : Nat) : Array CpInfo := ⟨poolList es last⟩
def fileOf (pool : Array CpInfo) (this : Nat) (attrs : Array Attribute := #[]) (ms : Array MethodInfo := #[]) (fl : Nat := 33) (sup : Nat := 0) (ifs : Array Nat := #[]) (fds : Array FieldInfo := #[]) : ClassFile where
  minorVersion := 0
  majorVersion := 65
  constantPool := pool
  accessFlags := fl
  thisClass := this
  superClass := sup
  interfaces := ifs
  fields := fds
  methods := ms
  attributes := attrs
def plain (name : String) (sup : Option ClassId) : Class where
  name := name
  kind := .ordinary
  loader := none
  accessFlags := 33
  super := sup
  interfaces := #[]
  cf := none
  fields := #[]
  methods := #[]
  instanceTypes := #[]
  staticTypes := #[]
  resolved := #[]
  callSites := []
  init := .initialized
  statics := none
  mirror := none

def pool0 : Array CpInfo := pool [(5, u "<init>"), (0, u "()V"), (1, .class_ 10), (1, u "java/lang/Object")] 113

def k0m0 : Method := { name := "<init>", desc := "()V", sig := { parameters := [], returnType := none }, accessFlags := 1, code := none }
/-- java/lang/Object -/
def k0 : Class := { plain "java/lang/Object" none with
  accessFlags := 33
  interfaces := #[]
  cf := some (fileOf pool0 8 #[] #[{ accessFlags := 1, nameIndex := 5, descriptorIndex := 6, attributes := #[] }] 33 0 #[] #[])
  fields := #[]
  methods := #[k0m0]
  instanceTypes := #[]
  staticTypes := #[]
  resolved := Array.replicate 124 none
  statics := none }

def pool1 : Array CpInfo := pool [(2, .class_ 4), (1, u "java/lang/Object"), (0, u "<init>"), (0, u "()V"), (0, .integer 2097151), (0, .integer 1114112), (0, .methodref 10 11), (0, .class_ 12), (0, .nameAndType 13 14), (0, u own_k2), (0, u "cp"), (0, u "(I)I"), (0, .methodref 16 17), (0, .class_ 18), (0, .nameAndType 19 20), (0, u own_k9), (0, u "isAscii"), (0, u "([I)Z"), (3, u "law"), (0, u "(IIII)Z")] 4

def k1m0 : Method := { name := "<init>", desc := "()V", sig := { parameters := [], returnType := none }, accessFlags := 2, code := none }
def k1c1 : Code := { maxStack := 2, maxLocals := 1, code := method_2_code, exceptionTable := #[], attributes := #[] }
def k1m1 : Method := { name := "cp", desc := "(I)I", sig := { parameters := [.int], returnType := some .int }, accessFlags := 10, code := some k1c1 }
def k1c2 : Code := { maxStack := 4, maxLocals := 10, code := code, exceptionTable := #[], attributes := #[] }
def k1m2 : Method := { name := "law", desc := "(IIII)Z", sig := { parameters := [.int, .int, .int, .int], returnType := some .boolean }, accessFlags := 9, code := some k1c2 }
def k1 : Class := { plain own_k2 (some 0) with
  accessFlags := 49
  interfaces := #[]
  cf := some (fileOf pool1 10 #[] #[{ accessFlags := 2, nameIndex := 5, descriptorIndex := 6, attributes := #[] }, { accessFlags := 10, nameIndex := 13, descriptorIndex := 14, attributes := #[] }, { accessFlags := 9, nameIndex := 24, descriptorIndex := 25, attributes := #[] }] 49 2 #[] #[])
  fields := #[]
  methods := #[k1m0, k1m1, k1m2]
  instanceTypes := #[]
  staticTypes := #[]
  resolved := Array.replicate 30 none
  statics := none }

def pool2 : Array CpInfo := pool [(2, .class_ 4), (1, u "java/lang/Object"), (0, u "<init>"), (0, u "()V"), (0, .class_ 8), (0, u own_k9), (12, u "LIMIT"), (0, u "I"), (7, u "isAscii"), (1, u "([I)Z")] 4

def k2m0 : Method := { name := "<init>", desc := "()V", sig := { parameters := [], returnType := none }, accessFlags := 2, code := none }
def k2c1 : Code := { maxStack := 2, maxLocals := 5, code := prog_25_method_4_code, exceptionTable := #[], attributes := #[] }
def k2m1 : Method := { name := "isAscii", desc := "([I)Z", sig := { parameters := [(.array .int)], returnType := some .boolean }, accessFlags := 8, code := some k2c1 }
def k2 : Class := { plain own_k9 (some 0) with
  accessFlags := 48
  interfaces := #[]
  cf := some (fileOf pool2 7 #[] #[{ accessFlags := 2, nameIndex := 5, descriptorIndex := 6, attributes := #[] }, { accessFlags := 8, nameIndex := 30, descriptorIndex := 32, attributes := #[] }] 48 2 #[] #[{ accessFlags := 24, nameIndex := 21, descriptorIndex := 22, attributes := #[] }])
  fields := #[{ name := "LIMIT", type := .int, accessFlags := 24, slot := 0, constantValue := 0 }]
  methods := #[k2m0, k2m1]
  instanceTypes := #[]
  staticTypes := #[.int]
  resolved := Array.replicate 37 none
  statics := none }

def pool3 : Array CpInfo := pool [(1, u "java/lang/Cloneable"), (0, .class_ 1), (0, u "java/lang/Object"), (0, .class_ 3)] 3

/-- java/lang/Cloneable -/
def k3 : Class := { plain "java/lang/Cloneable" (some 0) with
  accessFlags := 1537
  interfaces := #[]
  cf := some (fileOf pool3 2 #[] #[] 1537 4 #[] #[])
  fields := #[]
  methods := #[]
  instanceTypes := #[]
  staticTypes := #[]
  resolved := Array.replicate 8 none
  statics := none }

def pool4 : Array CpInfo := pool [(1, u "java/io/Serializable"), (0, .class_ 1), (0, u "java/lang/Object"), (0, .class_ 3)] 3

/-- java/io/Serializable -/
def k4 : Class := { plain "java/io/Serializable" (some 0) with
  accessFlags := 1537
  interfaces := #[]
  cf := some (fileOf pool4 2 #[] #[] 1537 4 #[] #[])
  fields := #[]
  methods := #[]
  instanceTypes := #[]
  staticTypes := #[]
  resolved := Array.replicate 8 none
  statics := none }

/-- the primitive byte -/
def k5 : Class := { plain "byte" none with kind := .primitive 'B', accessFlags := 0x411 }
/-- [B -/
def k6 : Class := { plain "[B" (some 0) with kind := .array 5 .byte, interfaces := #[3, 4], accessFlags := 1041 }

/-- the primitive int -/
def k7 : Class := { plain "int" none with kind := .primitive 'I', accessFlags := 0x411 }
/-- [I -/
def k8 : Class := { plain "[I" (some 0) with kind := .array 7 .int, interfaces := #[3, 4], accessFlags := 1041 }

def heap : Heap := #[]
def classes : Array Class := #[k0, k1, k2, k3, k4, k5, k6, k7, k8]
def interned : List (Array UInt16 × Addr) := []
def slotsUsed : Nat := 0
def theMethod : MethodId := ⟨1, 2⟩
def args0 : Array Value := #[.int 5, .int 6, .int 7, .int 8]
def aboutOver (below : List Frame) : State where
  vm := { classes := classes, interned := interned.toArray }
  heap := heap
  slotsUsed := slotsUsed
  threads := #[{ frames := .invoking theMethod args0 :: below }]
def below0 : List Frame := [.native { method := ⟨0, 0⟩, args := #[] }]
def about1 : State := aboutOver below0
def p0 : Program := .bare "" "" ""
def e0 : Env := launch0.env 0 0 0
theorem w_frames : about1.frames = Frame.invoking theMethod args0 :: below0 := rfl
set_option maxRecDepth 65536 in
theorem w_args : argsFit about1.vm theMethod args0 = true := by decide +kernel
set_option maxRecDepth 65536 in
theorem w_heap : heapFits about1 = true := by decide +kernel
set_option maxRecDepth 65536 in
theorem w_runnable : about1.curStatus? = some .runnable := by decide +kernel
set_option maxRecDepth 65536 in
theorem w_alone : about1.alone = true := by decide +kernel
set_option maxRecDepth 65536 in
theorem w_named : about1.methodNamed? x = some theMethod := by decide +kernel
set_option maxRecDepth 65536 in
theorem w_hears : about1.hears theMethod below0 = true := by decide +kernel
set_option maxRecDepth 65536 in
theorem w_ripe : about1.ripe theMethod args0 below0 = true := by decide +kernel
theorem w_running : about1.status = .running := rfl
set_option maxRecDepth 65536 in
theorem w_room : about1.hasRoom e0.platform room_1 = true :=
  launch0.hasRoom_least _ room_1 (by decide +kernel) (by decide +kernel) (by decide +kernel) (by decide +kernel) (by decide +kernel) (by decide +kernel)
theorem allAtoms_all (ts : List Jvm.Cond) (a : Array Jvm.Value) (st : Jvm.State) : (allAtoms ts).before a st = ts.all (fun c => c.before a st) := by
  induction ts with
  | nil => rfl
  | cons c t ih =>
    show (Jvm.Cond.and c (allAtoms t)).before a st = _
    rw [Jvm.Cond.before_and, ih, List.all_cons]
def words1 : List Jvm.Cond := Jvm.Cond.code x code maxLocals ret :: tables_1
/-- a 'code' word, met by the world's own term for the bytes: nothing is compared byte by byte -/
theorem code_word {y : MethodName} {bytes : ByteArray} {mx : Nat} {rt : Option FieldType} {a : Array Value} {s : State} {m : MethodId} {meth : Method} {c : Code} (h1 : s.methodNamed? y = some m) (h2 : s.vm.method? m = some meth) (h3 : meth.code = some c) (h4 : c.code = bytes)
    (h5 : (c.maxLocals == mx && c.exceptionTable.isEmpty && decide (c.maxStack ≤ mostOperands) && decide (meth.sig.returnType = rt) && !meth.locks && decide (parseMethodDescriptor y.desc = some meth.sig)) = true) : (Jvm.Cond.code y bytes mx rt).before a s = true := by
  simp only [Bool.and_eq_true, beq_iff_eq, Bool.not_eq_true', decide_eq_true_eq] at h5
  obtain ⟨⟨⟨⟨⟨g1, g2⟩, g3⟩, g4⟩, g5⟩, g6⟩ := h5
  simp [Cond.before, Cond.holds, Cond.value, h1, h2, h3, h4, g1, g2, g3, g4, g5, g6]
def isCode : Jvm.Cond → Bool
  | .code _ _ _ _ => true
  | _ => false
theorem all_split {L : List Jvm.Cond} {P : Jvm.Cond → Bool} (h1 : L.all (fun c => isCode c || P c) = true) (h2 : ∀ c ∈ L.filter isCode, P c = true) : L.all P = true := by
  refine List.all_eq_true.mpr fun c hc => ?_
  have h := List.all_eq_true.mp h1 c hc
  rcases Bool.eq_false_or_eq_true (isCode c) with hi | hi
  · exact h2 c (List.mem_filter.mpr ⟨hc, hi⟩)
  · simpa [hi] using h
set_option maxRecDepth 65536 in
theorem w_c0 : (Jvm.Cond.code x code maxLocals ret).before args0 about1 = true := code_word (m := ⟨1, 2⟩) (meth := k1m2) (c := k1c2) (by decide +kernel) rfl rfl rfl (by decide +kernel)
set_option maxRecDepth 65536 in
theorem w_c1 : (Jvm.Cond.code ({ cls := own_k2, name := "cp", desc := "(I)I" } : Jvm.MethodName) method_2_code (1 : Nat) (Option.some Jvm.ClassFile.FieldType.int)).before args0 about1 = true := code_word (m := ⟨1, 1⟩) (meth := k1m1) (c := k1c1) (by decide +kernel) rfl rfl rfl (by decide +kernel)
set_option maxRecDepth 65536 in
theorem w_c2 : (Jvm.Cond.code ({ cls := own_k9, name := "isAscii", desc := "([I)Z" } : Jvm.MethodName) prog_25_method_4_code (5 : Nat) (Option.some Jvm.ClassFile.FieldType.boolean)).before args0 about1 = true := code_word (m := ⟨2, 1⟩) (meth := k2m1) (c := k2c1) (by decide +kernel) rfl rfl rfl (by decide +kernel)
def codes1 : List Jvm.Cond := [Jvm.Cond.code x code maxLocals ret, Jvm.Cond.code ({ cls := own_k2, name := "cp", desc := "(I)I" } : Jvm.MethodName) method_2_code (1 : Nat) (Option.some Jvm.ClassFile.FieldType.int), Jvm.Cond.code ({ cls := own_k9, name := "isAscii", desc := "([I)Z" } : Jvm.MethodName) prog_25_method_4_code (5 : Nat) (Option.some Jvm.ClassFile.FieldType.boolean)]
set_option maxRecDepth 65536 in
theorem codes_eq : words1.filter isCode = codes1 := rfl
theorem w_codes : ∀ c ∈ words1.filter isCode, c.before args0 about1 = true := by
  rw [codes_eq]
  intro c hc
  simp only [codes1, List.mem_cons, List.not_mem_nil, or_false] at hc
  rcases hc with rfl | rfl | rfl
  · exact w_c0
  · exact w_c1
  · exact w_c2
set_option maxRecDepth 65536 in
theorem w_t1 : words1.all (fun c => isCode c || c.before args0 about1) = true := by decide +kernel
theorem w_tables : (allAtoms (Jvm.Cond.code x code maxLocals ret :: tables_1)).before args0 about1 = true := by
  rw [allAtoms_all]
  show words1.all (fun c => c.before args0 about1) = true
  refine all_split ?_ w_codes
  rw [w_t1]
set_option maxRecDepth 65536 in
theorem w_case : (Jvm.Cond.and given_1 narrow_1).before args0 about1 = true := by decide +kernel
theorem w_applies : (headSpec (Jvm.Cond.code x code maxLocals ret :: tables_1) room_1).applies x e0.platform about1 = true :=
  (Spec.applies_iff w_frames).mpr ⟨w_running, w_runnable, w_alone, w_named, w_hears, w_ripe, w_room, w_tables⟩
theorem atStart : AtStart classFile x code maxLocals ret World_1 tables_1 room_1 Calls_1 rest_1 Pre_1 launch0 p0 e0 about1 theMethod args0 below0 :=
  ⟨lists_1, trivial, launch0.admits_env _ _ _, launch0.least_env, fairChoices_fair.cas, fairChoices_fair.clock, w_frames, w_args, w_heap, w_applies, trivial, trivial, w_case⟩
end start1
theorem witness_1 : WitnessClaimed_1 := ⟨start1.p0, start1.e0, start1.about1, start1.theMethod, start1.args0, start1.below0, start1.atStart⟩
end Jvm.Pilot.@@N@@
