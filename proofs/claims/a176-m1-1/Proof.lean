import JvmDerived
import JvmDerived.Pilot.@@N@@Statement
import JvmDerived.Pilot.@@N@@Code
set_option linter.unusedVariables false
set_option linter.unusedSimpArgs false
@@BLOCK:NumsL.lean.txt@@
namespace Jvm.RoadKit
open Sem ClassFile Op Lib Jvm.Stand Jvm.Free Jvm.LawKit
section New
variable {p : Program} {l : Launch} {e : Env} {R : Room} {s : State} {m : MethodId} {args : Array Value} {below : List Frame} {meth : Method} {c : Code} {T : State} {locs : List Loc} {cells slots : Nat}
theorem retI (X : Stand p l e R s m args below meth c T locs cells slots) (hx : p.tables.exec = Jvm.exec) {pc : Nat} {Ls : Array Slot} {z : Int32} {rest : List Value} (hret : meth.sig.returnType = some .int) (hd : decode c.code pc = .ok (.ireturn, 1)) {fs : List Frame}
    (hl : ∀ (f : JFrame) (acts : List Action), f.method = m → f.locked = none → f.entered = [] → (doReturn e (T.setTop f) acts (some (.int z))).1 = T.setFrames fs) : Steps p.tables e below (T.setTop (mkF m pc Ls (.int z :: rest))) (T.setFrames fs) := by
  have hm' : T.vm.method? m = some meth := X.method'
  have hn : narrow .int (.int z) = .int z := rfl
  show Steps p.tables e below (T.setTop { method := m, pc := pc, locals := Ls, stack := _ :: rest, locked := none }) _
  jvm_step X.here [X.here.top, hx, hd, hm', hret, hn]
  first | (intro acts; rw [hl _ acts rfl rfl rfl]) | rw [hl _ _ rfl rfl rfl]
  exact Steps.refl _
end New
end Jvm.RoadKit
namespace Jvm.Pilot.@@N@@
open Jvm Jvm.ClassFile Sem Op Lib Jvm.Free Jvm.Stand Jvm.LawKit Jvm.RoadKit Bundle Jvm.Pilot.@@N@@.Jvm.D
theorem pn_0 : plainName "com/example/nodearc/nodearc/datatype/XmlNamesIsNameStartCharPinLaw" = true := by first | (simp [plainName, overriddenIn]; done) | decide +kernel
theorem pn_1 : plainName "com/example/nodearc/nodearc/datatype/XmlNames" = true := by first | (simp [plainName, overriddenIn]; done) | decide +kernel
theorem pd_0 : parseMethodDescriptor "(I)Z" = some ⟨[.int], some .boolean⟩ := by decide +kernel
theorem d1_0 : decode method_2_code 0 = .ok (.iload_n 0, 1) := by decide +kernel
theorem d1_1 : decode method_2_code 1 = .ok (.bipush 58, 2) := by decide +kernel
theorem d1_3 : decode method_2_code 3 = .ok (.if_icmp .ge 5, 3) := by decide +kernel
theorem d1_6 : decode method_2_code 6 = .ok (.iconst 1, 1) := by decide +kernel
theorem d1_7 : decode method_2_code 7 = .ok (.ireturn, 1) := by decide +kernel
theorem d1_8 : decode method_2_code 8 = .ok (.iload_n 0, 1) := by decide +kernel
theorem d1_9 : decode method_2_code 9 = .ok (.bipush 59, 2) := by decide +kernel
theorem d1_11 : decode method_2_code 11 = .ok (.if_icmp .lt 11, 3) := by decide +kernel
theorem d1_14 : decode method_2_code 14 = .ok (.iload_n 0, 1) := by decide +kernel
theorem d1_15 : decode method_2_code 15 = .ok (.bipush 64, 2) := by decide +kernel
theorem d1_17 : decode method_2_code 17 = .ok (.if_icmp .gt 5, 3) := by decide +kernel
theorem d1_20 : decode method_2_code 20 = .ok (.iconst 1, 1) := by decide +kernel
theorem d1_21 : decode method_2_code 21 = .ok (.ireturn, 1) := by decide +kernel
theorem d1_22 : decode method_2_code 22 = .ok (.iload_n 0, 1) := by decide +kernel
theorem d1_23 : decode method_2_code 23 = .ok (.bipush 91, 2) := by decide +kernel
theorem d1_25 : decode method_2_code 25 = .ok (.if_icmp .lt 11, 3) := by decide +kernel
theorem d1_28 : decode method_2_code 28 = .ok (.iload_n 0, 1) := by decide +kernel
theorem d1_29 : decode method_2_code 29 = .ok (.bipush 94, 2) := by decide +kernel
theorem d1_31 : decode method_2_code 31 = .ok (.if_icmp .gt 5, 3) := by decide +kernel
theorem d1_34 : decode method_2_code 34 = .ok (.iconst 1, 1) := by decide +kernel
theorem d1_35 : decode method_2_code 35 = .ok (.ireturn, 1) := by decide +kernel
theorem d1_36 : decode method_2_code 36 = .ok (.iload_n 0, 1) := by decide +kernel
theorem d1_37 : decode method_2_code 37 = .ok (.bipush 96, 2) := by decide +kernel
theorem d1_39 : decode method_2_code 39 = .ok (.if_icmp .ne 5, 3) := by decide +kernel
theorem d1_42 : decode method_2_code 42 = .ok (.iconst 1, 1) := by decide +kernel
theorem d1_43 : decode method_2_code 43 = .ok (.ireturn, 1) := by decide +kernel
theorem d1_44 : decode method_2_code 44 = .ok (.iload_n 0, 1) := by decide +kernel
theorem d1_45 : decode method_2_code 45 = .ok (.bipush 123, 2) := by decide +kernel
theorem d1_47 : decode method_2_code 47 = .ok (.if_icmp .lt 12, 3) := by decide +kernel
theorem d1_50 : decode method_2_code 50 = .ok (.iload_n 0, 1) := by decide +kernel
theorem d1_51 : decode method_2_code 51 = .ok (.sipush 191, 3) := by decide +kernel
theorem d1_54 : decode method_2_code 54 = .ok (.if_icmp .gt 5, 3) := by decide +kernel
theorem d1_57 : decode method_2_code 57 = .ok (.iconst 1, 1) := by decide +kernel
theorem d1_58 : decode method_2_code 58 = .ok (.ireturn, 1) := by decide +kernel
theorem d1_59 : decode method_2_code 59 = .ok (.iload_n 0, 1) := by decide +kernel
theorem d1_60 : decode method_2_code 60 = .ok (.sipush 215, 3) := by decide +kernel
theorem d1_63 : decode method_2_code 63 = .ok (.if_icmp .ne 5, 3) := by decide +kernel
theorem d1_66 : decode method_2_code 66 = .ok (.iconst 1, 1) := by decide +kernel
theorem d1_67 : decode method_2_code 67 = .ok (.ireturn, 1) := by decide +kernel
theorem d1_68 : decode method_2_code 68 = .ok (.iload_n 0, 1) := by decide +kernel
theorem d1_69 : decode method_2_code 69 = .ok (.sipush 247, 3) := by decide +kernel
theorem d1_72 : decode method_2_code 72 = .ok (.if_icmp .ne 5, 3) := by decide +kernel
theorem d1_75 : decode method_2_code 75 = .ok (.iconst 1, 1) := by decide +kernel
theorem d1_76 : decode method_2_code 76 = .ok (.ireturn, 1) := by decide +kernel
theorem d1_77 : decode method_2_code 77 = .ok (.iload_n 0, 1) := by decide +kernel
theorem d1_78 : decode method_2_code 78 = .ok (.sipush 768, 3) := by decide +kernel
theorem d1_81 : decode method_2_code 81 = .ok (.if_icmp .lt 12, 3) := by decide +kernel
theorem d1_84 : decode method_2_code 84 = .ok (.iload_n 0, 1) := by decide +kernel
theorem d1_85 : decode method_2_code 85 = .ok (.sipush 879, 3) := by decide +kernel
theorem d1_88 : decode method_2_code 88 = .ok (.if_icmp .gt 5, 3) := by decide +kernel
theorem d1_91 : decode method_2_code 91 = .ok (.iconst 1, 1) := by decide +kernel
theorem d1_92 : decode method_2_code 92 = .ok (.ireturn, 1) := by decide +kernel
theorem d1_93 : decode method_2_code 93 = .ok (.iload_n 0, 1) := by decide +kernel
theorem d1_94 : decode method_2_code 94 = .ok (.sipush 894, 3) := by decide +kernel
theorem d1_97 : decode method_2_code 97 = .ok (.if_icmp .ne 5, 3) := by decide +kernel
theorem d1_100 : decode method_2_code 100 = .ok (.iconst 1, 1) := by decide +kernel
theorem d1_101 : decode method_2_code 101 = .ok (.ireturn, 1) := by decide +kernel
theorem d1_102 : decode method_2_code 102 = .ok (.iload_n 0, 1) := by decide +kernel
theorem d1_103 : decode method_2_code 103 = .ok (.sipush 8192, 3) := by decide +kernel
theorem d1_106 : decode method_2_code 106 = .ok (.if_icmp .lt 12, 3) := by decide +kernel
theorem d1_109 : decode method_2_code 109 = .ok (.iload_n 0, 1) := by decide +kernel
theorem d1_110 : decode method_2_code 110 = .ok (.sipush 8203, 3) := by decide +kernel
theorem d1_113 : decode method_2_code 113 = .ok (.if_icmp .gt 5, 3) := by decide +kernel
theorem d1_116 : decode method_2_code 116 = .ok (.iconst 1, 1) := by decide +kernel
theorem d1_117 : decode method_2_code 117 = .ok (.ireturn, 1) := by decide +kernel
theorem d1_118 : decode method_2_code 118 = .ok (.iload_n 0, 1) := by decide +kernel
theorem d1_119 : decode method_2_code 119 = .ok (.sipush 8206, 3) := by decide +kernel
theorem d1_122 : decode method_2_code 122 = .ok (.if_icmp .lt 12, 3) := by decide +kernel
theorem d1_125 : decode method_2_code 125 = .ok (.iload_n 0, 1) := by decide +kernel
theorem d1_126 : decode method_2_code 126 = .ok (.sipush 8303, 3) := by decide +kernel
theorem d1_129 : decode method_2_code 129 = .ok (.if_icmp .gt 5, 3) := by decide +kernel
theorem d1_132 : decode method_2_code 132 = .ok (.iconst 1, 1) := by decide +kernel
theorem d1_133 : decode method_2_code 133 = .ok (.ireturn, 1) := by decide +kernel
theorem d1_134 : decode method_2_code 134 = .ok (.iload_n 0, 1) := by decide +kernel
theorem d1_135 : decode method_2_code 135 = .ok (.sipush 8592, 3) := by decide +kernel
theorem d1_138 : decode method_2_code 138 = .ok (.if_icmp .lt 12, 3) := by decide +kernel
theorem d1_141 : decode method_2_code 141 = .ok (.iload_n 0, 1) := by decide +kernel
theorem d1_142 : decode method_2_code 142 = .ok (.sipush 11263, 3) := by decide +kernel
theorem d1_145 : decode method_2_code 145 = .ok (.if_icmp .gt 5, 3) := by decide +kernel
theorem d1_148 : decode method_2_code 148 = .ok (.iconst 1, 1) := by decide +kernel
theorem d1_149 : decode method_2_code 149 = .ok (.ireturn, 1) := by decide +kernel
theorem d1_150 : decode method_2_code 150 = .ok (.iload_n 0, 1) := by decide +kernel
theorem d1_151 : decode method_2_code 151 = .ok (.sipush 12272, 3) := by decide +kernel
theorem d1_154 : decode method_2_code 154 = .ok (.if_icmp .lt 12, 3) := by decide +kernel
theorem d1_157 : decode method_2_code 157 = .ok (.iload_n 0, 1) := by decide +kernel
theorem d1_158 : decode method_2_code 158 = .ok (.sipush 12288, 3) := by decide +kernel
theorem d1_161 : decode method_2_code 161 = .ok (.if_icmp .gt 5, 3) := by decide +kernel
theorem d1_164 : decode method_2_code 164 = .ok (.iconst 1, 1) := by decide +kernel
theorem d1_165 : decode method_2_code 165 = .ok (.ireturn, 1) := by decide +kernel
theorem d1_166 : decode method_2_code 166 = .ok (.iload_n 0, 1) := by decide +kernel
theorem d1_167 : decode method_2_code 167 = .ok (.ldc 7, 2) := by decide +kernel
theorem d1_169 : decode method_2_code 169 = .ok (.if_icmp .lt 11, 3) := by decide +kernel
theorem d1_172 : decode method_2_code 172 = .ok (.iload_n 0, 1) := by decide +kernel
theorem d1_173 : decode method_2_code 173 = .ok (.ldc 8, 2) := by decide +kernel
theorem d1_175 : decode method_2_code 175 = .ok (.if_icmp .gt 5, 3) := by decide +kernel
theorem d1_178 : decode method_2_code 178 = .ok (.iconst 1, 1) := by decide +kernel
theorem d1_179 : decode method_2_code 179 = .ok (.ireturn, 1) := by decide +kernel
theorem d1_180 : decode method_2_code 180 = .ok (.iload_n 0, 1) := by decide +kernel
theorem d1_181 : decode method_2_code 181 = .ok (.ldc 9, 2) := by decide +kernel
theorem d1_183 : decode method_2_code 183 = .ok (.if_icmp .lt 11, 3) := by decide +kernel
theorem d1_186 : decode method_2_code 186 = .ok (.iload_n 0, 1) := by decide +kernel
theorem d1_187 : decode method_2_code 187 = .ok (.ldc 10, 2) := by decide +kernel
theorem d1_189 : decode method_2_code 189 = .ok (.if_icmp .gt 5, 3) := by decide +kernel
theorem d1_192 : decode method_2_code 192 = .ok (.iconst 1, 1) := by decide +kernel
theorem d1_193 : decode method_2_code 193 = .ok (.ireturn, 1) := by decide +kernel
theorem d1_194 : decode method_2_code 194 = .ok (.iload_n 0, 1) := by decide +kernel
theorem d1_195 : decode method_2_code 195 = .ok (.ldc 11, 2) := by decide +kernel
theorem d1_197 : decode method_2_code 197 = .ok (.if_icmp .lt 11, 3) := by decide +kernel
theorem d1_200 : decode method_2_code 200 = .ok (.iload_n 0, 1) := by decide +kernel
theorem d1_201 : decode method_2_code 201 = .ok (.ldc 12, 2) := by decide +kernel
theorem d1_203 : decode method_2_code 203 = .ok (.if_icmp .gt 5, 3) := by decide +kernel
theorem d1_206 : decode method_2_code 206 = .ok (.iconst 1, 1) := by decide +kernel
theorem d1_207 : decode method_2_code 207 = .ok (.ireturn, 1) := by decide +kernel
theorem d1_208 : decode method_2_code 208 = .ok (.iload_n 0, 1) := by decide +kernel
theorem d1_209 : decode method_2_code 209 = .ok (.ldc 13, 2) := by decide +kernel
theorem d1_211 : decode method_2_code 211 = .ok (.if_icmp .lt 5, 3) := by decide +kernel
theorem d1_214 : decode method_2_code 214 = .ok (.iconst 1, 1) := by decide +kernel
theorem d1_215 : decode method_2_code 215 = .ok (.ireturn, 1) := by decide +kernel
theorem d1_216 : decode method_2_code 216 = .ok (.iconst 0, 1) := by decide +kernel
theorem d1_217 : decode method_2_code 217 = .ok (.ireturn, 1) := by decide +kernel
def own_f1_208 (p1 : Int32) : Int32 := (if p1 < (983040 : Int32) then (0 : Int32) else (1 : Int32))
def own_f1_194 (p1 : Int32) : Int32 := (if p1 < (65534 : Int32) then (own_f1_208 p1 ) else (if (65535 : Int32) < p1 then (own_f1_208 p1 ) else (1 : Int32)))
def own_f1_180 (p1 : Int32) : Int32 := (if p1 < (64976 : Int32) then (own_f1_194 p1 ) else (if (65007 : Int32) < p1 then (own_f1_194 p1 ) else (1 : Int32)))
def own_f1_166 (p1 : Int32) : Int32 := (if p1 < (55296 : Int32) then (own_f1_180 p1 ) else (if (63743 : Int32) < p1 then (own_f1_180 p1 ) else (1 : Int32)))
def own_f1_150 (p1 : Int32) : Int32 := (if p1 < (12272 : Int32) then (own_f1_166 p1 ) else (if (12288 : Int32) < p1 then (own_f1_166 p1 ) else (1 : Int32)))
def own_f1_134 (p1 : Int32) : Int32 := (if p1 < (8592 : Int32) then (own_f1_150 p1 ) else (if (11263 : Int32) < p1 then (own_f1_150 p1 ) else (1 : Int32)))
def own_f1_118 (p1 : Int32) : Int32 := (if p1 < (8206 : Int32) then (own_f1_134 p1 ) else (if (8303 : Int32) < p1 then (own_f1_134 p1 ) else (1 : Int32)))
def own_f1_93 (p1 : Int32) : Int32 := (if p1 = (894 : Int32) then (1 : Int32) else (if p1 < (8192 : Int32) then (own_f1_118 p1 ) else (if (8203 : Int32) < p1 then (own_f1_118 p1 ) else (1 : Int32))))
def own_f1_59 (p1 : Int32) : Int32 := (if p1 = (215 : Int32) then (1 : Int32) else (if p1 = (247 : Int32) then (1 : Int32) else (if p1 < (768 : Int32) then (own_f1_93 p1 ) else (if (879 : Int32) < p1 then (own_f1_93 p1 ) else (1 : Int32)))))
def own_f1_36 (p1 : Int32) : Int32 := (if p1 = (96 : Int32) then (1 : Int32) else (if p1 < (123 : Int32) then (own_f1_59 p1 ) else (if (191 : Int32) < p1 then (own_f1_59 p1 ) else (1 : Int32))))
def own_f1_22 (p1 : Int32) : Int32 := (if p1 < (91 : Int32) then (own_f1_36 p1 ) else (if (94 : Int32) < p1 then (own_f1_36 p1 ) else (1 : Int32)))
def own_f1 (p1 : Int32) : Int32 := (if p1 < (58 : Int32) then (1 : Int32) else (if p1 < (59 : Int32) then (own_f1_22 p1 ) else (if (64 : Int32) < p1 then (own_f1_22 p1 ) else (1 : Int32))))
def Q1 (p1 : Int32) (h0 : Heap) (n0 : Nat) (v : Option Value) (h : Heap) (L : List Loc) : Prop := v = some (.int (own_f1 p1)) ∧ Fr n0 L ∧ h = h0
theorem ef_1 (m : MethodId) (x0 : Int32) : entryFrame m #[(.int x0)] 1 = mkF m 0 #[.val (.int x0)] [] := by first | (simp [entryFrame, mkF, argsToLocals, Value.category]; done) | rfl
set_option maxRecDepth 65536 in
set_option maxHeartbeats 40000000 in
theorem rm1 (l : Launch) (Z : State) (a0 : Array Value) (hw : ∀ d ∈ tables_1, d.before a0 Z = true) (ws : List Jvm.Cond) (p1 : Int32) (h0 : Heap) (n0 : Nat) :
    MetFree l (⟨"com/example/nodearc/nodearc/datatype/XmlNamesIsNameStartCharPinLaw", "inGap", "(I)Z"⟩ : MethodName) (head1 (Jvm.Cond.code (⟨"com/example/nodearc/nodearc/datatype/XmlNamesIsNameStartCharPinLaw", "inGap", "(I)Z"⟩ : MethodName) method_2_code 1 (some .boolean) :: ws) ({ frames := 0, cells := 0, slots := 0, locals := 0 } : Room)) (fun a U => a = #[(.int p1)] ∧ Z.Warmed39 U.vm ∧ U.heap = h0) (fun _ _ _ _ _ => True) (fun _ U o U' => ∃ v L, o = .returned v ∧ Q1 p1 h0 n0 v U'.heap L ∧ FrameEnd U o U' L ({ frames := 0, cells := 0, slots := 0, locals := 0 } : Room).cells ({ frames := 0, cells := 0, slots := 0, locals := 0 } : Room).slots) := by
  refine MetFree.of_bodySF (plainFor_of_name pn_0) hisR ?_
  intro p e s m args below meth c s₁ Bd hml0 hP hK
  obtain ⟨rfl, hZ, hh⟩ := hP
  have hx := Bd.exec
  have hby := Bd.bytes
  have hml : c.maxLocals = 1 := hml0
  have hown : s.vm.findClass "com/example/nodearc/nodearc/datatype/XmlNamesIsNameStartCharPinLaw" = some m.cls := findClass_of_methodNamed Bd.named
  have hnm := (name_of_methodNamed Bd.named Bd.method).1
  have X0 : Stand p l e ({ frames := 0, cells := 0, slots := 0, locals := 0 } : Room) s m #[(.int p1)] below meth c s₁ [] 0 0 := Stand.of_body Bd
  have e0 : s₁.heap = h0 := by rw [← hh, Bd.state]; rfl
  have N0 := Fr.nil n0
  have pre0 : ∀ t, Steps p.tables e below (s₁.setTop (mkF m 0 #[.val (.int p1)] [])) t → Steps p.tables e below (s₁.setTop (entryFrame m #[(.int p1)] 1)) t := fun t k => castTop (ef_1 m p1) k
  obtain ⟨fs, hr, hrun, hended, hW, hsame⟩ := X0.leave (v := some (.int (own_f1 p1))) (fun h => by rw [Bd.returns] at h; cases h)
  refine ⟨_, _, pre0 _ ?_, hrun, hended, _, _, rfl, ?_, ⟨_, rfl⟩, hW, hsame.mono (by decide) (by decide)⟩
  · skip
    have J208 : ∀ (hv : own_f1 p1 = own_f1_208 p1 ), Steps p.tables e below (s₁.setTop (mkF m 208 #[.val (.int p1)] [])) (s₁.setFrames fs) := by
      intro hv
      show Steps p.tables e below (s₁.setTop (mkF m 208 #[.val (.int p1)] [])) _
      refine XS.iloadN X0.here hx rfl (hb hby d1_208) rfl ?_
      show Steps p.tables e below (s₁.setTop (mkF m 209 #[.val (.int p1)] [(.int p1)])) _
      refine X0.ldcInt hx hown (mvT hZ (hw _ (List.mem_of_getElem? (i := 14) rfl))) (g := (mkF m 209 #[.val (.int p1)] [(.int p1)])) rfl (hb hby d1_209) _ ?_
      show Steps p.tables e below (s₁.setTop (mkF m 211 #[.val (.int p1)] [(.int (983040 : Int32)), (.int p1)])) _
      by_cases hc211 : p1 < (983040 : Int32)
      · replace hv := hv.trans (if_pos hc211)
        refine XS.icmpYes X0.here hx rfl (pc0 := 211) (pc' := 216) rfl (hb hby d1_211) rfl (tlt hc211).1 (by decide) (by decide) ?_
        show Steps p.tables e below (s₁.setTop (mkF m 216 #[.val (.int p1)] [])) _
        refine XS.iconst X0.here hx rfl (hb hby d1_216) ?_
        show Steps p.tables e below (s₁.setTop (mkF m 217 #[.val (.int p1)] [(.int (0 : Int32))])) _
        rw [hv] at hr
        exact retN X0 hx (t := .boolean) Bd.returns (by simp) (hb hby d1_217) hr
      · replace hv := hv.trans (if_neg hc211)
        refine XS.icmpNo X0.here hx rfl (hb hby d1_211) rfl (flt hc211).1 ?_
        show Steps p.tables e below (s₁.setTop (mkF m 214 #[.val (.int p1)] [])) _
        refine XS.iconst X0.here hx rfl (hb hby d1_214) ?_
        show Steps p.tables e below (s₁.setTop (mkF m 215 #[.val (.int p1)] [(.int (1 : Int32))])) _
        rw [hv] at hr
        exact retN X0 hx (t := .boolean) Bd.returns (by simp) (hb hby d1_215) hr
    have J194 : ∀ (hv : own_f1 p1 = own_f1_194 p1 ), Steps p.tables e below (s₁.setTop (mkF m 194 #[.val (.int p1)] [])) (s₁.setFrames fs) := by
      intro hv
      show Steps p.tables e below (s₁.setTop (mkF m 194 #[.val (.int p1)] [])) _
      refine XS.iloadN X0.here hx rfl (hb hby d1_194) rfl ?_
      show Steps p.tables e below (s₁.setTop (mkF m 195 #[.val (.int p1)] [(.int p1)])) _
      refine X0.ldcInt hx hown (mvT hZ (hw _ (List.mem_of_getElem? (i := 13) rfl))) (g := (mkF m 195 #[.val (.int p1)] [(.int p1)])) rfl (hb hby d1_195) _ ?_
      show Steps p.tables e below (s₁.setTop (mkF m 197 #[.val (.int p1)] [(.int (65534 : Int32)), (.int p1)])) _
      by_cases hc197 : p1 < (65534 : Int32)
      · replace hv := hv.trans (if_pos hc197)
        refine XS.icmpYes X0.here hx rfl (pc0 := 197) (pc' := 208) rfl (hb hby d1_197) rfl (tlt hc197).1 (by decide) (by decide) ?_
        exact J208  hv
      · replace hv := hv.trans (if_neg hc197)
        refine XS.icmpNo X0.here hx rfl (hb hby d1_197) rfl (flt hc197).1 ?_
        show Steps p.tables e below (s₁.setTop (mkF m 200 #[.val (.int p1)] [])) _
        refine XS.iloadN X0.here hx rfl (hb hby d1_200) rfl ?_
        show Steps p.tables e below (s₁.setTop (mkF m 201 #[.val (.int p1)] [(.int p1)])) _
        refine X0.ldcInt hx hown (mvT hZ (hw _ (List.mem_of_getElem? (i := 17) rfl))) (g := (mkF m 201 #[.val (.int p1)] [(.int p1)])) rfl (hb hby d1_201) _ ?_
        show Steps p.tables e below (s₁.setTop (mkF m 203 #[.val (.int p1)] [(.int (65535 : Int32)), (.int p1)])) _
        by_cases hc203 : (65535 : Int32) < p1
        · replace hv := hv.trans (if_pos hc203)
          refine XS.icmpYes X0.here hx rfl (pc0 := 203) (pc' := 208) rfl (hb hby d1_203) rfl (tlt hc203).2.2.1 (by decide) (by decide) ?_
          exact J208  hv
        · replace hv := hv.trans (if_neg hc203)
          refine XS.icmpNo X0.here hx rfl (hb hby d1_203) rfl (flt hc203).2.2.1 ?_
          show Steps p.tables e below (s₁.setTop (mkF m 206 #[.val (.int p1)] [])) _
          refine XS.iconst X0.here hx rfl (hb hby d1_206) ?_
          show Steps p.tables e below (s₁.setTop (mkF m 207 #[.val (.int p1)] [(.int (1 : Int32))])) _
          rw [hv] at hr
          exact retN X0 hx (t := .boolean) Bd.returns (by simp) (hb hby d1_207) hr
    have J180 : ∀ (hv : own_f1 p1 = own_f1_180 p1 ), Steps p.tables e below (s₁.setTop (mkF m 180 #[.val (.int p1)] [])) (s₁.setFrames fs) := by
      intro hv
      show Steps p.tables e below (s₁.setTop (mkF m 180 #[.val (.int p1)] [])) _
      refine XS.iloadN X0.here hx rfl (hb hby d1_180) rfl ?_
      show Steps p.tables e below (s₁.setTop (mkF m 181 #[.val (.int p1)] [(.int p1)])) _
      refine X0.ldcInt hx hown (mvT hZ (hw _ (List.mem_of_getElem? (i := 12) rfl))) (g := (mkF m 181 #[.val (.int p1)] [(.int p1)])) rfl (hb hby d1_181) _ ?_
      show Steps p.tables e below (s₁.setTop (mkF m 183 #[.val (.int p1)] [(.int (64976 : Int32)), (.int p1)])) _
      by_cases hc183 : p1 < (64976 : Int32)
      · replace hv := hv.trans (if_pos hc183)
        refine XS.icmpYes X0.here hx rfl (pc0 := 183) (pc' := 194) rfl (hb hby d1_183) rfl (tlt hc183).1 (by decide) (by decide) ?_
        exact J194  hv
      · replace hv := hv.trans (if_neg hc183)
        refine XS.icmpNo X0.here hx rfl (hb hby d1_183) rfl (flt hc183).1 ?_
        show Steps p.tables e below (s₁.setTop (mkF m 186 #[.val (.int p1)] [])) _
        refine XS.iloadN X0.here hx rfl (hb hby d1_186) rfl ?_
        show Steps p.tables e below (s₁.setTop (mkF m 187 #[.val (.int p1)] [(.int p1)])) _
        refine X0.ldcInt hx hown (mvT hZ (hw _ (List.mem_of_getElem? (i := 16) rfl))) (g := (mkF m 187 #[.val (.int p1)] [(.int p1)])) rfl (hb hby d1_187) _ ?_
        show Steps p.tables e below (s₁.setTop (mkF m 189 #[.val (.int p1)] [(.int (65007 : Int32)), (.int p1)])) _
        by_cases hc189 : (65007 : Int32) < p1
        · replace hv := hv.trans (if_pos hc189)
          refine XS.icmpYes X0.here hx rfl (pc0 := 189) (pc' := 194) rfl (hb hby d1_189) rfl (tlt hc189).2.2.1 (by decide) (by decide) ?_
          exact J194  hv
        · replace hv := hv.trans (if_neg hc189)
          refine XS.icmpNo X0.here hx rfl (hb hby d1_189) rfl (flt hc189).2.2.1 ?_
          show Steps p.tables e below (s₁.setTop (mkF m 192 #[.val (.int p1)] [])) _
          refine XS.iconst X0.here hx rfl (hb hby d1_192) ?_
          show Steps p.tables e below (s₁.setTop (mkF m 193 #[.val (.int p1)] [(.int (1 : Int32))])) _
          rw [hv] at hr
          exact retN X0 hx (t := .boolean) Bd.returns (by simp) (hb hby d1_193) hr
    have J166 : ∀ (hv : own_f1 p1 = own_f1_166 p1 ), Steps p.tables e below (s₁.setTop (mkF m 166 #[.val (.int p1)] [])) (s₁.setFrames fs) := by
      intro hv
      show Steps p.tables e below (s₁.setTop (mkF m 166 #[.val (.int p1)] [])) _
      refine XS.iloadN X0.here hx rfl (hb hby d1_166) rfl ?_
      show Steps p.tables e below (s₁.setTop (mkF m 167 #[.val (.int p1)] [(.int p1)])) _
      refine X0.ldcInt hx hown (mvT hZ (hw _ (List.mem_of_getElem? (i := 11) rfl))) (g := (mkF m 167 #[.val (.int p1)] [(.int p1)])) rfl (hb hby d1_167) _ ?_
      show Steps p.tables e below (s₁.setTop (mkF m 169 #[.val (.int p1)] [(.int (55296 : Int32)), (.int p1)])) _
      by_cases hc169 : p1 < (55296 : Int32)
      · replace hv := hv.trans (if_pos hc169)
        refine XS.icmpYes X0.here hx rfl (pc0 := 169) (pc' := 180) rfl (hb hby d1_169) rfl (tlt hc169).1 (by decide) (by decide) ?_
        exact J180  hv
      · replace hv := hv.trans (if_neg hc169)
        refine XS.icmpNo X0.here hx rfl (hb hby d1_169) rfl (flt hc169).1 ?_
        show Steps p.tables e below (s₁.setTop (mkF m 172 #[.val (.int p1)] [])) _
        refine XS.iloadN X0.here hx rfl (hb hby d1_172) rfl ?_
        show Steps p.tables e below (s₁.setTop (mkF m 173 #[.val (.int p1)] [(.int p1)])) _
        refine X0.ldcInt hx hown (mvT hZ (hw _ (List.mem_of_getElem? (i := 15) rfl))) (g := (mkF m 173 #[.val (.int p1)] [(.int p1)])) rfl (hb hby d1_173) _ ?_
        show Steps p.tables e below (s₁.setTop (mkF m 175 #[.val (.int p1)] [(.int (63743 : Int32)), (.int p1)])) _
        by_cases hc175 : (63743 : Int32) < p1
        · replace hv := hv.trans (if_pos hc175)
          refine XS.icmpYes X0.here hx rfl (pc0 := 175) (pc' := 180) rfl (hb hby d1_175) rfl (tlt hc175).2.2.1 (by decide) (by decide) ?_
          exact J180  hv
        · replace hv := hv.trans (if_neg hc175)
          refine XS.icmpNo X0.here hx rfl (hb hby d1_175) rfl (flt hc175).2.2.1 ?_
          show Steps p.tables e below (s₁.setTop (mkF m 178 #[.val (.int p1)] [])) _
          refine XS.iconst X0.here hx rfl (hb hby d1_178) ?_
          show Steps p.tables e below (s₁.setTop (mkF m 179 #[.val (.int p1)] [(.int (1 : Int32))])) _
          rw [hv] at hr
          exact retN X0 hx (t := .boolean) Bd.returns (by simp) (hb hby d1_179) hr
    have J150 : ∀ (hv : own_f1 p1 = own_f1_150 p1 ), Steps p.tables e below (s₁.setTop (mkF m 150 #[.val (.int p1)] [])) (s₁.setFrames fs) := by
      intro hv
      show Steps p.tables e below (s₁.setTop (mkF m 150 #[.val (.int p1)] [])) _
      refine XS.iloadN X0.here hx rfl (hb hby d1_150) rfl ?_
      show Steps p.tables e below (s₁.setTop (mkF m 151 #[.val (.int p1)] [(.int p1)])) _
      refine XS.sipush X0.here hx rfl (hb hby d1_151) ?_
      show Steps p.tables e below (s₁.setTop (mkF m 154 #[.val (.int p1)] [(.int (12272 : Int32)), (.int p1)])) _
      by_cases hc154 : p1 < (12272 : Int32)
      · replace hv := hv.trans (if_pos hc154)
        refine XS.icmpYes X0.here hx rfl (pc0 := 154) (pc' := 166) rfl (hb hby d1_154) rfl (tlt hc154).1 (by decide) (by decide) ?_
        exact J166  hv
      · replace hv := hv.trans (if_neg hc154)
        refine XS.icmpNo X0.here hx rfl (hb hby d1_154) rfl (flt hc154).1 ?_
        show Steps p.tables e below (s₁.setTop (mkF m 157 #[.val (.int p1)] [])) _
        refine XS.iloadN X0.here hx rfl (hb hby d1_157) rfl ?_
        show Steps p.tables e below (s₁.setTop (mkF m 158 #[.val (.int p1)] [(.int p1)])) _
        refine XS.sipush X0.here hx rfl (hb hby d1_158) ?_
        show Steps p.tables e below (s₁.setTop (mkF m 161 #[.val (.int p1)] [(.int (12288 : Int32)), (.int p1)])) _
        by_cases hc161 : (12288 : Int32) < p1
        · replace hv := hv.trans (if_pos hc161)
          refine XS.icmpYes X0.here hx rfl (pc0 := 161) (pc' := 166) rfl (hb hby d1_161) rfl (tlt hc161).2.2.1 (by decide) (by decide) ?_
          exact J166  hv
        · replace hv := hv.trans (if_neg hc161)
          refine XS.icmpNo X0.here hx rfl (hb hby d1_161) rfl (flt hc161).2.2.1 ?_
          show Steps p.tables e below (s₁.setTop (mkF m 164 #[.val (.int p1)] [])) _
          refine XS.iconst X0.here hx rfl (hb hby d1_164) ?_
          show Steps p.tables e below (s₁.setTop (mkF m 165 #[.val (.int p1)] [(.int (1 : Int32))])) _
          rw [hv] at hr
          exact retN X0 hx (t := .boolean) Bd.returns (by simp) (hb hby d1_165) hr
    have J134 : ∀ (hv : own_f1 p1 = own_f1_134 p1 ), Steps p.tables e below (s₁.setTop (mkF m 134 #[.val (.int p1)] [])) (s₁.setFrames fs) := by
      intro hv
      show Steps p.tables e below (s₁.setTop (mkF m 134 #[.val (.int p1)] [])) _
      refine XS.iloadN X0.here hx rfl (hb hby d1_134) rfl ?_
      show Steps p.tables e below (s₁.setTop (mkF m 135 #[.val (.int p1)] [(.int p1)])) _
      refine XS.sipush X0.here hx rfl (hb hby d1_135) ?_
      show Steps p.tables e below (s₁.setTop (mkF m 138 #[.val (.int p1)] [(.int (8592 : Int32)), (.int p1)])) _
      by_cases hc138 : p1 < (8592 : Int32)
      · replace hv := hv.trans (if_pos hc138)
        refine XS.icmpYes X0.here hx rfl (pc0 := 138) (pc' := 150) rfl (hb hby d1_138) rfl (tlt hc138).1 (by decide) (by decide) ?_
        exact J150  hv
      · replace hv := hv.trans (if_neg hc138)
        refine XS.icmpNo X0.here hx rfl (hb hby d1_138) rfl (flt hc138).1 ?_
        show Steps p.tables e below (s₁.setTop (mkF m 141 #[.val (.int p1)] [])) _
        refine XS.iloadN X0.here hx rfl (hb hby d1_141) rfl ?_
        show Steps p.tables e below (s₁.setTop (mkF m 142 #[.val (.int p1)] [(.int p1)])) _
        refine XS.sipush X0.here hx rfl (hb hby d1_142) ?_
        show Steps p.tables e below (s₁.setTop (mkF m 145 #[.val (.int p1)] [(.int (11263 : Int32)), (.int p1)])) _
        by_cases hc145 : (11263 : Int32) < p1
        · replace hv := hv.trans (if_pos hc145)
          refine XS.icmpYes X0.here hx rfl (pc0 := 145) (pc' := 150) rfl (hb hby d1_145) rfl (tlt hc145).2.2.1 (by decide) (by decide) ?_
          exact J150  hv
        · replace hv := hv.trans (if_neg hc145)
          refine XS.icmpNo X0.here hx rfl (hb hby d1_145) rfl (flt hc145).2.2.1 ?_
          show Steps p.tables e below (s₁.setTop (mkF m 148 #[.val (.int p1)] [])) _
          refine XS.iconst X0.here hx rfl (hb hby d1_148) ?_
          show Steps p.tables e below (s₁.setTop (mkF m 149 #[.val (.int p1)] [(.int (1 : Int32))])) _
          rw [hv] at hr
          exact retN X0 hx (t := .boolean) Bd.returns (by simp) (hb hby d1_149) hr
    have J118 : ∀ (hv : own_f1 p1 = own_f1_118 p1 ), Steps p.tables e below (s₁.setTop (mkF m 118 #[.val (.int p1)] [])) (s₁.setFrames fs) := by
      intro hv
      show Steps p.tables e below (s₁.setTop (mkF m 118 #[.val (.int p1)] [])) _
      refine XS.iloadN X0.here hx rfl (hb hby d1_118) rfl ?_
      show Steps p.tables e below (s₁.setTop (mkF m 119 #[.val (.int p1)] [(.int p1)])) _
      refine XS.sipush X0.here hx rfl (hb hby d1_119) ?_
      show Steps p.tables e below (s₁.setTop (mkF m 122 #[.val (.int p1)] [(.int (8206 : Int32)), (.int p1)])) _
      by_cases hc122 : p1 < (8206 : Int32)
      · replace hv := hv.trans (if_pos hc122)
        refine XS.icmpYes X0.here hx rfl (pc0 := 122) (pc' := 134) rfl (hb hby d1_122) rfl (tlt hc122).1 (by decide) (by decide) ?_
        exact J134  hv
      · replace hv := hv.trans (if_neg hc122)
        refine XS.icmpNo X0.here hx rfl (hb hby d1_122) rfl (flt hc122).1 ?_
        show Steps p.tables e below (s₁.setTop (mkF m 125 #[.val (.int p1)] [])) _
        refine XS.iloadN X0.here hx rfl (hb hby d1_125) rfl ?_
        show Steps p.tables e below (s₁.setTop (mkF m 126 #[.val (.int p1)] [(.int p1)])) _
        refine XS.sipush X0.here hx rfl (hb hby d1_126) ?_
        show Steps p.tables e below (s₁.setTop (mkF m 129 #[.val (.int p1)] [(.int (8303 : Int32)), (.int p1)])) _
        by_cases hc129 : (8303 : Int32) < p1
        · replace hv := hv.trans (if_pos hc129)
          refine XS.icmpYes X0.here hx rfl (pc0 := 129) (pc' := 134) rfl (hb hby d1_129) rfl (tlt hc129).2.2.1 (by decide) (by decide) ?_
          exact J134  hv
        · replace hv := hv.trans (if_neg hc129)
          refine XS.icmpNo X0.here hx rfl (hb hby d1_129) rfl (flt hc129).2.2.1 ?_
          show Steps p.tables e below (s₁.setTop (mkF m 132 #[.val (.int p1)] [])) _
          refine XS.iconst X0.here hx rfl (hb hby d1_132) ?_
          show Steps p.tables e below (s₁.setTop (mkF m 133 #[.val (.int p1)] [(.int (1 : Int32))])) _
          rw [hv] at hr
          exact retN X0 hx (t := .boolean) Bd.returns (by simp) (hb hby d1_133) hr
    have J93 : ∀ (hv : own_f1 p1 = own_f1_93 p1 ), Steps p.tables e below (s₁.setTop (mkF m 93 #[.val (.int p1)] [])) (s₁.setFrames fs) := by
      intro hv
      show Steps p.tables e below (s₁.setTop (mkF m 93 #[.val (.int p1)] [])) _
      refine XS.iloadN X0.here hx rfl (hb hby d1_93) rfl ?_
      show Steps p.tables e below (s₁.setTop (mkF m 94 #[.val (.int p1)] [(.int p1)])) _
      refine XS.sipush X0.here hx rfl (hb hby d1_94) ?_
      show Steps p.tables e below (s₁.setTop (mkF m 97 #[.val (.int p1)] [(.int (894 : Int32)), (.int p1)])) _
      by_cases hc97 : p1 = (894 : Int32)
      · replace hv := hv.trans (if_pos hc97)
        refine XS.icmpNo X0.here hx rfl (hb hby d1_97) rfl (teq hc97).2 ?_
        show Steps p.tables e below (s₁.setTop (mkF m 100 #[.val (.int p1)] [])) _
        refine XS.iconst X0.here hx rfl (hb hby d1_100) ?_
        show Steps p.tables e below (s₁.setTop (mkF m 101 #[.val (.int p1)] [(.int (1 : Int32))])) _
        rw [hv] at hr
        exact retN X0 hx (t := .boolean) Bd.returns (by simp) (hb hby d1_101) hr
      · replace hv := hv.trans (if_neg hc97)
        refine XS.icmpYes X0.here hx rfl (pc0 := 97) (pc' := 102) rfl (hb hby d1_97) rfl (feq hc97).2 (by decide) (by decide) ?_
        show Steps p.tables e below (s₁.setTop (mkF m 102 #[.val (.int p1)] [])) _
        refine XS.iloadN X0.here hx rfl (hb hby d1_102) rfl ?_
        show Steps p.tables e below (s₁.setTop (mkF m 103 #[.val (.int p1)] [(.int p1)])) _
        refine XS.sipush X0.here hx rfl (hb hby d1_103) ?_
        show Steps p.tables e below (s₁.setTop (mkF m 106 #[.val (.int p1)] [(.int (8192 : Int32)), (.int p1)])) _
        by_cases hc106 : p1 < (8192 : Int32)
        · replace hv := hv.trans (if_pos hc106)
          refine XS.icmpYes X0.here hx rfl (pc0 := 106) (pc' := 118) rfl (hb hby d1_106) rfl (tlt hc106).1 (by decide) (by decide) ?_
          exact J118  hv
        · replace hv := hv.trans (if_neg hc106)
          refine XS.icmpNo X0.here hx rfl (hb hby d1_106) rfl (flt hc106).1 ?_
          show Steps p.tables e below (s₁.setTop (mkF m 109 #[.val (.int p1)] [])) _
          refine XS.iloadN X0.here hx rfl (hb hby d1_109) rfl ?_
          show Steps p.tables e below (s₁.setTop (mkF m 110 #[.val (.int p1)] [(.int p1)])) _
          refine XS.sipush X0.here hx rfl (hb hby d1_110) ?_
          show Steps p.tables e below (s₁.setTop (mkF m 113 #[.val (.int p1)] [(.int (8203 : Int32)), (.int p1)])) _
          by_cases hc113 : (8203 : Int32) < p1
          · replace hv := hv.trans (if_pos hc113)
            refine XS.icmpYes X0.here hx rfl (pc0 := 113) (pc' := 118) rfl (hb hby d1_113) rfl (tlt hc113).2.2.1 (by decide) (by decide) ?_
            exact J118  hv
          · replace hv := hv.trans (if_neg hc113)
            refine XS.icmpNo X0.here hx rfl (hb hby d1_113) rfl (flt hc113).2.2.1 ?_
            show Steps p.tables e below (s₁.setTop (mkF m 116 #[.val (.int p1)] [])) _
            refine XS.iconst X0.here hx rfl (hb hby d1_116) ?_
            show Steps p.tables e below (s₁.setTop (mkF m 117 #[.val (.int p1)] [(.int (1 : Int32))])) _
            rw [hv] at hr
            exact retN X0 hx (t := .boolean) Bd.returns (by simp) (hb hby d1_117) hr
    have J59 : ∀ (hv : own_f1 p1 = own_f1_59 p1 ), Steps p.tables e below (s₁.setTop (mkF m 59 #[.val (.int p1)] [])) (s₁.setFrames fs) := by
      intro hv
      show Steps p.tables e below (s₁.setTop (mkF m 59 #[.val (.int p1)] [])) _
      refine XS.iloadN X0.here hx rfl (hb hby d1_59) rfl ?_
      show Steps p.tables e below (s₁.setTop (mkF m 60 #[.val (.int p1)] [(.int p1)])) _
      refine XS.sipush X0.here hx rfl (hb hby d1_60) ?_
      show Steps p.tables e below (s₁.setTop (mkF m 63 #[.val (.int p1)] [(.int (215 : Int32)), (.int p1)])) _
      by_cases hc63 : p1 = (215 : Int32)
      · replace hv := hv.trans (if_pos hc63)
        refine XS.icmpNo X0.here hx rfl (hb hby d1_63) rfl (teq hc63).2 ?_
        show Steps p.tables e below (s₁.setTop (mkF m 66 #[.val (.int p1)] [])) _
        refine XS.iconst X0.here hx rfl (hb hby d1_66) ?_
        show Steps p.tables e below (s₁.setTop (mkF m 67 #[.val (.int p1)] [(.int (1 : Int32))])) _
        rw [hv] at hr
        exact retN X0 hx (t := .boolean) Bd.returns (by simp) (hb hby d1_67) hr
      · replace hv := hv.trans (if_neg hc63)
        refine XS.icmpYes X0.here hx rfl (pc0 := 63) (pc' := 68) rfl (hb hby d1_63) rfl (feq hc63).2 (by decide) (by decide) ?_
        show Steps p.tables e below (s₁.setTop (mkF m 68 #[.val (.int p1)] [])) _
        refine XS.iloadN X0.here hx rfl (hb hby d1_68) rfl ?_
        show Steps p.tables e below (s₁.setTop (mkF m 69 #[.val (.int p1)] [(.int p1)])) _
        refine XS.sipush X0.here hx rfl (hb hby d1_69) ?_
        show Steps p.tables e below (s₁.setTop (mkF m 72 #[.val (.int p1)] [(.int (247 : Int32)), (.int p1)])) _
        by_cases hc72 : p1 = (247 : Int32)
        · replace hv := hv.trans (if_pos hc72)
          refine XS.icmpNo X0.here hx rfl (hb hby d1_72) rfl (teq hc72).2 ?_
          show Steps p.tables e below (s₁.setTop (mkF m 75 #[.val (.int p1)] [])) _
          refine XS.iconst X0.here hx rfl (hb hby d1_75) ?_
          show Steps p.tables e below (s₁.setTop (mkF m 76 #[.val (.int p1)] [(.int (1 : Int32))])) _
          rw [hv] at hr
          exact retN X0 hx (t := .boolean) Bd.returns (by simp) (hb hby d1_76) hr
        · replace hv := hv.trans (if_neg hc72)
          refine XS.icmpYes X0.here hx rfl (pc0 := 72) (pc' := 77) rfl (hb hby d1_72) rfl (feq hc72).2 (by decide) (by decide) ?_
          show Steps p.tables e below (s₁.setTop (mkF m 77 #[.val (.int p1)] [])) _
          refine XS.iloadN X0.here hx rfl (hb hby d1_77) rfl ?_
          show Steps p.tables e below (s₁.setTop (mkF m 78 #[.val (.int p1)] [(.int p1)])) _
          refine XS.sipush X0.here hx rfl (hb hby d1_78) ?_
          show Steps p.tables e below (s₁.setTop (mkF m 81 #[.val (.int p1)] [(.int (768 : Int32)), (.int p1)])) _
          by_cases hc81 : p1 < (768 : Int32)
          · replace hv := hv.trans (if_pos hc81)
            refine XS.icmpYes X0.here hx rfl (pc0 := 81) (pc' := 93) rfl (hb hby d1_81) rfl (tlt hc81).1 (by decide) (by decide) ?_
            exact J93  hv
          · replace hv := hv.trans (if_neg hc81)
            refine XS.icmpNo X0.here hx rfl (hb hby d1_81) rfl (flt hc81).1 ?_
            show Steps p.tables e below (s₁.setTop (mkF m 84 #[.val (.int p1)] [])) _
            refine XS.iloadN X0.here hx rfl (hb hby d1_84) rfl ?_
            show Steps p.tables e below (s₁.setTop (mkF m 85 #[.val (.int p1)] [(.int p1)])) _
            refine XS.sipush X0.here hx rfl (hb hby d1_85) ?_
            show Steps p.tables e below (s₁.setTop (mkF m 88 #[.val (.int p1)] [(.int (879 : Int32)), (.int p1)])) _
            by_cases hc88 : (879 : Int32) < p1
            · replace hv := hv.trans (if_pos hc88)
              refine XS.icmpYes X0.here hx rfl (pc0 := 88) (pc' := 93) rfl (hb hby d1_88) rfl (tlt hc88).2.2.1 (by decide) (by decide) ?_
              exact J93  hv
            · replace hv := hv.trans (if_neg hc88)
              refine XS.icmpNo X0.here hx rfl (hb hby d1_88) rfl (flt hc88).2.2.1 ?_
              show Steps p.tables e below (s₁.setTop (mkF m 91 #[.val (.int p1)] [])) _
              refine XS.iconst X0.here hx rfl (hb hby d1_91) ?_
              show Steps p.tables e below (s₁.setTop (mkF m 92 #[.val (.int p1)] [(.int (1 : Int32))])) _
              rw [hv] at hr
              exact retN X0 hx (t := .boolean) Bd.returns (by simp) (hb hby d1_92) hr
    have J36 : ∀ (hv : own_f1 p1 = own_f1_36 p1 ), Steps p.tables e below (s₁.setTop (mkF m 36 #[.val (.int p1)] [])) (s₁.setFrames fs) := by
      intro hv
      show Steps p.tables e below (s₁.setTop (mkF m 36 #[.val (.int p1)] [])) _
      refine XS.iloadN X0.here hx rfl (hb hby d1_36) rfl ?_
      show Steps p.tables e below (s₁.setTop (mkF m 37 #[.val (.int p1)] [(.int p1)])) _
      refine XS.bipush X0.here hx rfl (hb hby d1_37) ?_
      show Steps p.tables e below (s₁.setTop (mkF m 39 #[.val (.int p1)] [(.int (96 : Int32)), (.int p1)])) _
      by_cases hc39 : p1 = (96 : Int32)
      · replace hv := hv.trans (if_pos hc39)
        refine XS.icmpNo X0.here hx rfl (hb hby d1_39) rfl (teq hc39).2 ?_
        show Steps p.tables e below (s₁.setTop (mkF m 42 #[.val (.int p1)] [])) _
        refine XS.iconst X0.here hx rfl (hb hby d1_42) ?_
        show Steps p.tables e below (s₁.setTop (mkF m 43 #[.val (.int p1)] [(.int (1 : Int32))])) _
        rw [hv] at hr
        exact retN X0 hx (t := .boolean) Bd.returns (by simp) (hb hby d1_43) hr
      · replace hv := hv.trans (if_neg hc39)
        refine XS.icmpYes X0.here hx rfl (pc0 := 39) (pc' := 44) rfl (hb hby d1_39) rfl (feq hc39).2 (by decide) (by decide) ?_
        show Steps p.tables e below (s₁.setTop (mkF m 44 #[.val (.int p1)] [])) _
        refine XS.iloadN X0.here hx rfl (hb hby d1_44) rfl ?_
        show Steps p.tables e below (s₁.setTop (mkF m 45 #[.val (.int p1)] [(.int p1)])) _
        refine XS.bipush X0.here hx rfl (hb hby d1_45) ?_
        show Steps p.tables e below (s₁.setTop (mkF m 47 #[.val (.int p1)] [(.int (123 : Int32)), (.int p1)])) _
        by_cases hc47 : p1 < (123 : Int32)
        · replace hv := hv.trans (if_pos hc47)
          refine XS.icmpYes X0.here hx rfl (pc0 := 47) (pc' := 59) rfl (hb hby d1_47) rfl (tlt hc47).1 (by decide) (by decide) ?_
          exact J59  hv
        · replace hv := hv.trans (if_neg hc47)
          refine XS.icmpNo X0.here hx rfl (hb hby d1_47) rfl (flt hc47).1 ?_
          show Steps p.tables e below (s₁.setTop (mkF m 50 #[.val (.int p1)] [])) _
          refine XS.iloadN X0.here hx rfl (hb hby d1_50) rfl ?_
          show Steps p.tables e below (s₁.setTop (mkF m 51 #[.val (.int p1)] [(.int p1)])) _
          refine XS.sipush X0.here hx rfl (hb hby d1_51) ?_
          show Steps p.tables e below (s₁.setTop (mkF m 54 #[.val (.int p1)] [(.int (191 : Int32)), (.int p1)])) _
          by_cases hc54 : (191 : Int32) < p1
          · replace hv := hv.trans (if_pos hc54)
            refine XS.icmpYes X0.here hx rfl (pc0 := 54) (pc' := 59) rfl (hb hby d1_54) rfl (tlt hc54).2.2.1 (by decide) (by decide) ?_
            exact J59  hv
          · replace hv := hv.trans (if_neg hc54)
            refine XS.icmpNo X0.here hx rfl (hb hby d1_54) rfl (flt hc54).2.2.1 ?_
            show Steps p.tables e below (s₁.setTop (mkF m 57 #[.val (.int p1)] [])) _
            refine XS.iconst X0.here hx rfl (hb hby d1_57) ?_
            show Steps p.tables e below (s₁.setTop (mkF m 58 #[.val (.int p1)] [(.int (1 : Int32))])) _
            rw [hv] at hr
            exact retN X0 hx (t := .boolean) Bd.returns (by simp) (hb hby d1_58) hr
    have J22 : ∀ (hv : own_f1 p1 = own_f1_22 p1 ), Steps p.tables e below (s₁.setTop (mkF m 22 #[.val (.int p1)] [])) (s₁.setFrames fs) := by
      intro hv
      show Steps p.tables e below (s₁.setTop (mkF m 22 #[.val (.int p1)] [])) _
      refine XS.iloadN X0.here hx rfl (hb hby d1_22) rfl ?_
      show Steps p.tables e below (s₁.setTop (mkF m 23 #[.val (.int p1)] [(.int p1)])) _
      refine XS.bipush X0.here hx rfl (hb hby d1_23) ?_
      show Steps p.tables e below (s₁.setTop (mkF m 25 #[.val (.int p1)] [(.int (91 : Int32)), (.int p1)])) _
      by_cases hc25 : p1 < (91 : Int32)
      · replace hv := hv.trans (if_pos hc25)
        refine XS.icmpYes X0.here hx rfl (pc0 := 25) (pc' := 36) rfl (hb hby d1_25) rfl (tlt hc25).1 (by decide) (by decide) ?_
        exact J36  hv
      · replace hv := hv.trans (if_neg hc25)
        refine XS.icmpNo X0.here hx rfl (hb hby d1_25) rfl (flt hc25).1 ?_
        show Steps p.tables e below (s₁.setTop (mkF m 28 #[.val (.int p1)] [])) _
        refine XS.iloadN X0.here hx rfl (hb hby d1_28) rfl ?_
        show Steps p.tables e below (s₁.setTop (mkF m 29 #[.val (.int p1)] [(.int p1)])) _
        refine XS.bipush X0.here hx rfl (hb hby d1_29) ?_
        show Steps p.tables e below (s₁.setTop (mkF m 31 #[.val (.int p1)] [(.int (94 : Int32)), (.int p1)])) _
        by_cases hc31 : (94 : Int32) < p1
        · replace hv := hv.trans (if_pos hc31)
          refine XS.icmpYes X0.here hx rfl (pc0 := 31) (pc' := 36) rfl (hb hby d1_31) rfl (tlt hc31).2.2.1 (by decide) (by decide) ?_
          exact J36  hv
        · replace hv := hv.trans (if_neg hc31)
          refine XS.icmpNo X0.here hx rfl (hb hby d1_31) rfl (flt hc31).2.2.1 ?_
          show Steps p.tables e below (s₁.setTop (mkF m 34 #[.val (.int p1)] [])) _
          refine XS.iconst X0.here hx rfl (hb hby d1_34) ?_
          show Steps p.tables e below (s₁.setTop (mkF m 35 #[.val (.int p1)] [(.int (1 : Int32))])) _
          rw [hv] at hr
          exact retN X0 hx (t := .boolean) Bd.returns (by simp) (hb hby d1_35) hr
    have J0 : ∀ (hv : own_f1 p1 = own_f1 p1 ), Steps p.tables e below (s₁.setTop (mkF m 0 #[.val (.int p1)] [])) (s₁.setFrames fs) := by
      intro hv
      show Steps p.tables e below (s₁.setTop (mkF m 0 #[.val (.int p1)] [])) _
      refine XS.iloadN X0.here hx rfl (hb hby d1_0) rfl ?_
      show Steps p.tables e below (s₁.setTop (mkF m 1 #[.val (.int p1)] [(.int p1)])) _
      refine XS.bipush X0.here hx rfl (hb hby d1_1) ?_
      show Steps p.tables e below (s₁.setTop (mkF m 3 #[.val (.int p1)] [(.int (58 : Int32)), (.int p1)])) _
      by_cases hc3 : p1 < (58 : Int32)
      · replace hv := hv.trans (if_pos hc3)
        refine XS.icmpNo X0.here hx rfl (hb hby d1_3) rfl (tlt hc3).2.1 ?_
        show Steps p.tables e below (s₁.setTop (mkF m 6 #[.val (.int p1)] [])) _
        refine XS.iconst X0.here hx rfl (hb hby d1_6) ?_
        show Steps p.tables e below (s₁.setTop (mkF m 7 #[.val (.int p1)] [(.int (1 : Int32))])) _
        rw [hv] at hr
        exact retN X0 hx (t := .boolean) Bd.returns (by simp) (hb hby d1_7) hr
      · replace hv := hv.trans (if_neg hc3)
        refine XS.icmpYes X0.here hx rfl (pc0 := 3) (pc' := 8) rfl (hb hby d1_3) rfl (flt hc3).2.1 (by decide) (by decide) ?_
        show Steps p.tables e below (s₁.setTop (mkF m 8 #[.val (.int p1)] [])) _
        refine XS.iloadN X0.here hx rfl (hb hby d1_8) rfl ?_
        show Steps p.tables e below (s₁.setTop (mkF m 9 #[.val (.int p1)] [(.int p1)])) _
        refine XS.bipush X0.here hx rfl (hb hby d1_9) ?_
        show Steps p.tables e below (s₁.setTop (mkF m 11 #[.val (.int p1)] [(.int (59 : Int32)), (.int p1)])) _
        by_cases hc11 : p1 < (59 : Int32)
        · replace hv := hv.trans (if_pos hc11)
          refine XS.icmpYes X0.here hx rfl (pc0 := 11) (pc' := 22) rfl (hb hby d1_11) rfl (tlt hc11).1 (by decide) (by decide) ?_
          exact J22  hv
        · replace hv := hv.trans (if_neg hc11)
          refine XS.icmpNo X0.here hx rfl (hb hby d1_11) rfl (flt hc11).1 ?_
          show Steps p.tables e below (s₁.setTop (mkF m 14 #[.val (.int p1)] [])) _
          refine XS.iloadN X0.here hx rfl (hb hby d1_14) rfl ?_
          show Steps p.tables e below (s₁.setTop (mkF m 15 #[.val (.int p1)] [(.int p1)])) _
          refine XS.bipush X0.here hx rfl (hb hby d1_15) ?_
          show Steps p.tables e below (s₁.setTop (mkF m 17 #[.val (.int p1)] [(.int (64 : Int32)), (.int p1)])) _
          by_cases hc17 : (64 : Int32) < p1
          · replace hv := hv.trans (if_pos hc17)
            refine XS.icmpYes X0.here hx rfl (pc0 := 17) (pc' := 22) rfl (hb hby d1_17) rfl (tlt hc17).2.2.1 (by decide) (by decide) ?_
            exact J22  hv
          · replace hv := hv.trans (if_neg hc17)
            refine XS.icmpNo X0.here hx rfl (hb hby d1_17) rfl (flt hc17).2.2.1 ?_
            show Steps p.tables e below (s₁.setTop (mkF m 20 #[.val (.int p1)] [])) _
            refine XS.iconst X0.here hx rfl (hb hby d1_20) ?_
            show Steps p.tables e below (s₁.setTop (mkF m 21 #[.val (.int p1)] [(.int (1 : Int32))])) _
            rw [hv] at hr
            exact retN X0 hx (t := .boolean) Bd.returns (by simp) (hb hby d1_21) hr
    exact J0 rfl
  · show Q1 p1 h0 n0 _ s₁.heap _
    rw [e0]
    exact ⟨rfl, N0, rfl⟩
theorem d2_0 : decode prog_72_method_2_code 0 = .ok (.iload_n 0, 1) := by decide +kernel
theorem d2_1 : decode prog_72_method_2_code 1 = .ok (.istore_n 1, 1) := by decide +kernel
theorem d2_2 : decode prog_72_method_2_code 2 = .ok (.iload_n 1, 1) := by decide +kernel
theorem d2_3 : decode prog_72_method_2_code 3 = .ok (.bipush 58, 2) := by decide +kernel
theorem d2_5 : decode prog_72_method_2_code 5 = .ok (.if_icmp .eq 194, 3) := by decide +kernel
theorem d2_8 : decode prog_72_method_2_code 8 = .ok (.iload_n 1, 1) := by decide +kernel
theorem d2_9 : decode prog_72_method_2_code 9 = .ok (.bipush 95, 2) := by decide +kernel
theorem d2_11 : decode prog_72_method_2_code 11 = .ok (.if_icmp .eq 188, 3) := by decide +kernel
theorem d2_14 : decode prog_72_method_2_code 14 = .ok (.iload_n 1, 1) := by decide +kernel
theorem d2_15 : decode prog_72_method_2_code 15 = .ok (.bipush 65, 2) := by decide +kernel
theorem d2_17 : decode prog_72_method_2_code 17 = .ok (.if_icmp .lt 9, 3) := by decide +kernel
theorem d2_20 : decode prog_72_method_2_code 20 = .ok (.iload_n 1, 1) := by decide +kernel
theorem d2_21 : decode prog_72_method_2_code 21 = .ok (.bipush 90, 2) := by decide +kernel
theorem d2_23 : decode prog_72_method_2_code 23 = .ok (.if_icmp .le 176, 3) := by decide +kernel
theorem d2_26 : decode prog_72_method_2_code 26 = .ok (.iload_n 1, 1) := by decide +kernel
theorem d2_27 : decode prog_72_method_2_code 27 = .ok (.bipush 97, 2) := by decide +kernel
theorem d2_29 : decode prog_72_method_2_code 29 = .ok (.if_icmp .lt 9, 3) := by decide +kernel
theorem d2_32 : decode prog_72_method_2_code 32 = .ok (.iload_n 1, 1) := by decide +kernel
theorem d2_33 : decode prog_72_method_2_code 33 = .ok (.bipush 122, 2) := by decide +kernel
theorem d2_35 : decode prog_72_method_2_code 35 = .ok (.if_icmp .le 164, 3) := by decide +kernel
theorem d2_38 : decode prog_72_method_2_code 38 = .ok (.iload_n 1, 1) := by decide +kernel
theorem d2_39 : decode prog_72_method_2_code 39 = .ok (.sipush 192, 3) := by decide +kernel
theorem d2_42 : decode prog_72_method_2_code 42 = .ok (.if_icmp .lt 10, 3) := by decide +kernel
theorem d2_45 : decode prog_72_method_2_code 45 = .ok (.iload_n 1, 1) := by decide +kernel
theorem d2_46 : decode prog_72_method_2_code 46 = .ok (.sipush 214, 3) := by decide +kernel
theorem d2_49 : decode prog_72_method_2_code 49 = .ok (.if_icmp .le 150, 3) := by decide +kernel
theorem d2_52 : decode prog_72_method_2_code 52 = .ok (.iload_n 1, 1) := by decide +kernel
theorem d2_53 : decode prog_72_method_2_code 53 = .ok (.sipush 216, 3) := by decide +kernel
theorem d2_56 : decode prog_72_method_2_code 56 = .ok (.if_icmp .lt 10, 3) := by decide +kernel
theorem d2_59 : decode prog_72_method_2_code 59 = .ok (.iload_n 1, 1) := by decide +kernel
theorem d2_60 : decode prog_72_method_2_code 60 = .ok (.sipush 246, 3) := by decide +kernel
theorem d2_63 : decode prog_72_method_2_code 63 = .ok (.if_icmp .le 136, 3) := by decide +kernel
theorem d2_66 : decode prog_72_method_2_code 66 = .ok (.iload_n 1, 1) := by decide +kernel
theorem d2_67 : decode prog_72_method_2_code 67 = .ok (.sipush 248, 3) := by decide +kernel
theorem d2_70 : decode prog_72_method_2_code 70 = .ok (.if_icmp .lt 10, 3) := by decide +kernel
theorem d2_73 : decode prog_72_method_2_code 73 = .ok (.iload_n 1, 1) := by decide +kernel
theorem d2_74 : decode prog_72_method_2_code 74 = .ok (.sipush 767, 3) := by decide +kernel
theorem d2_77 : decode prog_72_method_2_code 77 = .ok (.if_icmp .le 122, 3) := by decide +kernel
theorem d2_80 : decode prog_72_method_2_code 80 = .ok (.iload_n 1, 1) := by decide +kernel
theorem d2_81 : decode prog_72_method_2_code 81 = .ok (.sipush 880, 3) := by decide +kernel
theorem d2_84 : decode prog_72_method_2_code 84 = .ok (.if_icmp .lt 10, 3) := by decide +kernel
theorem d2_87 : decode prog_72_method_2_code 87 = .ok (.iload_n 1, 1) := by decide +kernel
theorem d2_88 : decode prog_72_method_2_code 88 = .ok (.sipush 893, 3) := by decide +kernel
theorem d2_91 : decode prog_72_method_2_code 91 = .ok (.if_icmp .le 108, 3) := by decide +kernel
theorem d2_94 : decode prog_72_method_2_code 94 = .ok (.iload_n 1, 1) := by decide +kernel
theorem d2_95 : decode prog_72_method_2_code 95 = .ok (.sipush 895, 3) := by decide +kernel
theorem d2_98 : decode prog_72_method_2_code 98 = .ok (.if_icmp .lt 10, 3) := by decide +kernel
theorem d2_101 : decode prog_72_method_2_code 101 = .ok (.iload_n 1, 1) := by decide +kernel
theorem d2_102 : decode prog_72_method_2_code 102 = .ok (.sipush 8191, 3) := by decide +kernel
theorem d2_105 : decode prog_72_method_2_code 105 = .ok (.if_icmp .le 94, 3) := by decide +kernel
theorem d2_108 : decode prog_72_method_2_code 108 = .ok (.iload_n 1, 1) := by decide +kernel
theorem d2_109 : decode prog_72_method_2_code 109 = .ok (.sipush 8204, 3) := by decide +kernel
theorem d2_112 : decode prog_72_method_2_code 112 = .ok (.if_icmp .lt 10, 3) := by decide +kernel
theorem d2_115 : decode prog_72_method_2_code 115 = .ok (.iload_n 1, 1) := by decide +kernel
theorem d2_116 : decode prog_72_method_2_code 116 = .ok (.sipush 8205, 3) := by decide +kernel
theorem d2_119 : decode prog_72_method_2_code 119 = .ok (.if_icmp .le 80, 3) := by decide +kernel
theorem d2_122 : decode prog_72_method_2_code 122 = .ok (.iload_n 1, 1) := by decide +kernel
theorem d2_123 : decode prog_72_method_2_code 123 = .ok (.sipush 8304, 3) := by decide +kernel
theorem d2_126 : decode prog_72_method_2_code 126 = .ok (.if_icmp .lt 10, 3) := by decide +kernel
theorem d2_129 : decode prog_72_method_2_code 129 = .ok (.iload_n 1, 1) := by decide +kernel
theorem d2_130 : decode prog_72_method_2_code 130 = .ok (.sipush 8591, 3) := by decide +kernel
theorem d2_133 : decode prog_72_method_2_code 133 = .ok (.if_icmp .le 66, 3) := by decide +kernel
theorem d2_136 : decode prog_72_method_2_code 136 = .ok (.iload_n 1, 1) := by decide +kernel
theorem d2_137 : decode prog_72_method_2_code 137 = .ok (.sipush 11264, 3) := by decide +kernel
theorem d2_140 : decode prog_72_method_2_code 140 = .ok (.if_icmp .lt 10, 3) := by decide +kernel
theorem d2_143 : decode prog_72_method_2_code 143 = .ok (.iload_n 1, 1) := by decide +kernel
theorem d2_144 : decode prog_72_method_2_code 144 = .ok (.sipush 12271, 3) := by decide +kernel
theorem d2_147 : decode prog_72_method_2_code 147 = .ok (.if_icmp .le 52, 3) := by decide +kernel
theorem d2_150 : decode prog_72_method_2_code 150 = .ok (.iload_n 1, 1) := by decide +kernel
theorem d2_151 : decode prog_72_method_2_code 151 = .ok (.sipush 12289, 3) := by decide +kernel
theorem d2_154 : decode prog_72_method_2_code 154 = .ok (.if_icmp .lt 9, 3) := by decide +kernel
theorem d2_157 : decode prog_72_method_2_code 157 = .ok (.iload_n 1, 1) := by decide +kernel
theorem d2_158 : decode prog_72_method_2_code 158 = .ok (.ldc 7, 2) := by decide +kernel
theorem d2_160 : decode prog_72_method_2_code 160 = .ok (.if_icmp .le 39, 3) := by decide +kernel
theorem d2_163 : decode prog_72_method_2_code 163 = .ok (.iload_n 1, 1) := by decide +kernel
theorem d2_164 : decode prog_72_method_2_code 164 = .ok (.ldc 8, 2) := by decide +kernel
theorem d2_166 : decode prog_72_method_2_code 166 = .ok (.if_icmp .lt 9, 3) := by decide +kernel
theorem d2_169 : decode prog_72_method_2_code 169 = .ok (.iload_n 1, 1) := by decide +kernel
theorem d2_170 : decode prog_72_method_2_code 170 = .ok (.ldc 9, 2) := by decide +kernel
theorem d2_172 : decode prog_72_method_2_code 172 = .ok (.if_icmp .le 27, 3) := by decide +kernel
theorem d2_175 : decode prog_72_method_2_code 175 = .ok (.iload_n 1, 1) := by decide +kernel
theorem d2_176 : decode prog_72_method_2_code 176 = .ok (.ldc 10, 2) := by decide +kernel
theorem d2_178 : decode prog_72_method_2_code 178 = .ok (.if_icmp .lt 9, 3) := by decide +kernel
theorem d2_181 : decode prog_72_method_2_code 181 = .ok (.iload_n 1, 1) := by decide +kernel
theorem d2_182 : decode prog_72_method_2_code 182 = .ok (.ldc 11, 2) := by decide +kernel
theorem d2_184 : decode prog_72_method_2_code 184 = .ok (.if_icmp .le 15, 3) := by decide +kernel
theorem d2_187 : decode prog_72_method_2_code 187 = .ok (.iload_n 1, 1) := by decide +kernel
theorem d2_188 : decode prog_72_method_2_code 188 = .ok (.ldc 12, 2) := by decide +kernel
theorem d2_190 : decode prog_72_method_2_code 190 = .ok (.if_icmp .lt 13, 3) := by decide +kernel
theorem d2_193 : decode prog_72_method_2_code 193 = .ok (.iload_n 1, 1) := by decide +kernel
theorem d2_194 : decode prog_72_method_2_code 194 = .ok (.ldc 13, 2) := by decide +kernel
theorem d2_196 : decode prog_72_method_2_code 196 = .ok (.if_icmp .gt 7, 3) := by decide +kernel
theorem d2_199 : decode prog_72_method_2_code 199 = .ok (.iconst 1, 1) := by decide +kernel
theorem d2_200 : decode prog_72_method_2_code 200 = .ok (.goto 4, 3) := by decide +kernel
theorem d2_203 : decode prog_72_method_2_code 203 = .ok (.iconst 0, 1) := by decide +kernel
theorem d2_204 : decode prog_72_method_2_code 204 = .ok (.ireturn, 1) := by decide +kernel
def own_f2_203 (p1 : Int32) (l1 : Int32) : Int32 := (0 : Int32)
def own_f2_199 (p1 : Int32) (l1 : Int32) : Int32 := (1 : Int32)
def own_f2_187 (p1 : Int32) (l1 : Int32) : Int32 := (if l1 < (65536 : Int32) then (own_f2_203 p1 l1) else (if (983039 : Int32) < l1 then (own_f2_203 p1 l1) else (own_f2_199 p1 l1)))
def own_f2_175 (p1 : Int32) (l1 : Int32) : Int32 := (if l1 < (65008 : Int32) then (own_f2_187 p1 l1) else (if (65533 : Int32) < l1 then (own_f2_187 p1 l1) else (own_f2_199 p1 l1)))
def own_f2_163 (p1 : Int32) (l1 : Int32) : Int32 := (if l1 < (63744 : Int32) then (own_f2_175 p1 l1) else (if (64975 : Int32) < l1 then (own_f2_175 p1 l1) else (own_f2_199 p1 l1)))
def own_f2_150 (p1 : Int32) (l1 : Int32) : Int32 := (if l1 < (12289 : Int32) then (own_f2_163 p1 l1) else (if (55295 : Int32) < l1 then (own_f2_163 p1 l1) else (own_f2_199 p1 l1)))
def own_f2_136 (p1 : Int32) (l1 : Int32) : Int32 := (if l1 < (11264 : Int32) then (own_f2_150 p1 l1) else (if (12271 : Int32) < l1 then (own_f2_150 p1 l1) else (own_f2_199 p1 l1)))
def own_f2_122 (p1 : Int32) (l1 : Int32) : Int32 := (if l1 < (8304 : Int32) then (own_f2_136 p1 l1) else (if (8591 : Int32) < l1 then (own_f2_136 p1 l1) else (own_f2_199 p1 l1)))
def own_f2_108 (p1 : Int32) (l1 : Int32) : Int32 := (if l1 < (8204 : Int32) then (own_f2_122 p1 l1) else (if (8205 : Int32) < l1 then (own_f2_122 p1 l1) else (own_f2_199 p1 l1)))
def own_f2_94 (p1 : Int32) (l1 : Int32) : Int32 := (if l1 < (895 : Int32) then (own_f2_108 p1 l1) else (if (8191 : Int32) < l1 then (own_f2_108 p1 l1) else (own_f2_199 p1 l1)))
def own_f2_80 (p1 : Int32) (l1 : Int32) : Int32 := (if l1 < (880 : Int32) then (own_f2_94 p1 l1) else (if (893 : Int32) < l1 then (own_f2_94 p1 l1) else (own_f2_199 p1 l1)))
def own_f2_66 (p1 : Int32) (l1 : Int32) : Int32 := (if l1 < (248 : Int32) then (own_f2_80 p1 l1) else (if (767 : Int32) < l1 then (own_f2_80 p1 l1) else (own_f2_199 p1 l1)))
def own_f2_52 (p1 : Int32) (l1 : Int32) : Int32 := (if l1 < (216 : Int32) then (own_f2_66 p1 l1) else (if (246 : Int32) < l1 then (own_f2_66 p1 l1) else (own_f2_199 p1 l1)))
def own_f2_38 (p1 : Int32) (l1 : Int32) : Int32 := (if l1 < (192 : Int32) then (own_f2_52 p1 l1) else (if (214 : Int32) < l1 then (own_f2_52 p1 l1) else (own_f2_199 p1 l1)))
def own_f2_26 (p1 : Int32) (l1 : Int32) : Int32 := (if l1 < (97 : Int32) then (own_f2_38 p1 l1) else (if (122 : Int32) < l1 then (own_f2_38 p1 l1) else (own_f2_199 p1 l1)))
def own_f2 (p1 : Int32) : Int32 := (if p1 = (58 : Int32) then (own_f2_199 p1 p1) else (if p1 = (95 : Int32) then (own_f2_199 p1 p1) else (if p1 < (65 : Int32) then (own_f2_26 p1 p1) else (if (90 : Int32) < p1 then (own_f2_26 p1 p1) else (own_f2_199 p1 p1)))))
def Q2 (p1 : Int32) (h0 : Heap) (n0 : Nat) (v : Option Value) (h : Heap) (L : List Loc) : Prop := v = some (.int (own_f2 p1)) ∧ Fr n0 L ∧ h = h0
theorem ef_2 (m : MethodId) (x0 : Int32) : entryFrame m #[(.int x0)] 2 = mkF m 0 #[.val (.int x0), .unset] [] := by first | (simp [entryFrame, mkF, argsToLocals, Value.category]; done) | rfl
set_option maxRecDepth 65536 in
set_option maxHeartbeats 40000000 in
theorem rm2 (l : Launch) (Z : State) (a0 : Array Value) (hw : ∀ d ∈ tables_1, d.before a0 Z = true) (ws : List Jvm.Cond) (p1 : Int32) (h0 : Heap) (n0 : Nat) :
    MetFree l (⟨"com/example/nodearc/nodearc/datatype/XmlNames", "isNameStartChar", "(I)Z"⟩ : MethodName) (head1 (Jvm.Cond.code (⟨"com/example/nodearc/nodearc/datatype/XmlNames", "isNameStartChar", "(I)Z"⟩ : MethodName) prog_72_method_2_code 2 (some .boolean) :: ws) ({ frames := 0, cells := 0, slots := 0, locals := 0 } : Room)) (fun a U => a = #[(.int p1)] ∧ Z.Warmed39 U.vm ∧ U.heap = h0) (fun _ _ _ _ _ => True) (fun _ U o U' => ∃ v L, o = .returned v ∧ Q2 p1 h0 n0 v U'.heap L ∧ FrameEnd U o U' L ({ frames := 0, cells := 0, slots := 0, locals := 0 } : Room).cells ({ frames := 0, cells := 0, slots := 0, locals := 0 } : Room).slots) := by
  refine MetFree.of_bodySF (plainFor_of_name pn_1) hisR ?_
  intro p e s m args below meth c s₁ Bd hml0 hP hK
  obtain ⟨rfl, hZ, hh⟩ := hP
  have hx := Bd.exec
  have hby := Bd.bytes
  have hml : c.maxLocals = 2 := hml0
  have hown : s.vm.findClass "com/example/nodearc/nodearc/datatype/XmlNames" = some m.cls := findClass_of_methodNamed Bd.named
  have hnm := (name_of_methodNamed Bd.named Bd.method).1
  have X0 : Stand p l e ({ frames := 0, cells := 0, slots := 0, locals := 0 } : Room) s m #[(.int p1)] below meth c s₁ [] 0 0 := Stand.of_body Bd
  have e0 : s₁.heap = h0 := by rw [← hh, Bd.state]; rfl
  have N0 := Fr.nil n0
  have pre0 : ∀ t, Steps p.tables e below (s₁.setTop (mkF m 0 #[.val (.int p1), .unset] [])) t → Steps p.tables e below (s₁.setTop (entryFrame m #[(.int p1)] 2)) t := fun t k => castTop (ef_2 m p1) k
  obtain ⟨fs, hr, hrun, hended, hW, hsame⟩ := X0.leave (v := some (.int (own_f2 p1))) (fun h => by rw [Bd.returns] at h; cases h)
  refine ⟨_, _, pre0 _ ?_, hrun, hended, _, _, rfl, ?_, ⟨_, rfl⟩, hW, hsame.mono (by decide) (by decide)⟩
  · skip
    have J203 : ∀ (l1 : Int32) (hv : own_f2 p1 = own_f2_203 p1 l1), Steps p.tables e below (s₁.setTop (mkF m 203 #[.val (.int p1), .val (.int l1)] [])) (s₁.setFrames fs) := by
      intro l1 hv
      show Steps p.tables e below (s₁.setTop (mkF m 203 #[.val (.int p1), .val (.int l1)] [])) _
      refine XS.iconst X0.here hx rfl (hb hby d2_203) ?_
      show Steps p.tables e below (s₁.setTop (mkF m 204 #[.val (.int p1), .val (.int l1)] [(.int (0 : Int32))])) _
      rw [hv] at hr
      exact retN X0 hx (t := .boolean) Bd.returns (by simp) (hb hby d2_204) hr
    have J199 : ∀ (l1 : Int32) (hv : own_f2 p1 = own_f2_199 p1 l1), Steps p.tables e below (s₁.setTop (mkF m 199 #[.val (.int p1), .val (.int l1)] [])) (s₁.setFrames fs) := by
      intro l1 hv
      show Steps p.tables e below (s₁.setTop (mkF m 199 #[.val (.int p1), .val (.int l1)] [])) _
      refine XS.iconst X0.here hx rfl (hb hby d2_199) ?_
      show Steps p.tables e below (s₁.setTop (mkF m 200 #[.val (.int p1), .val (.int l1)] [(.int (1 : Int32))])) _
      refine XS.goto X0.here hx rfl (pc0 := 200) (pc' := 204) rfl (hb hby d2_200) (by decide) (by decide) ?_
      show Steps p.tables e below (s₁.setTop (mkF m 204 #[.val (.int p1), .val (.int l1)] [(.int (1 : Int32))])) _
      rw [hv] at hr
      exact retN X0 hx (t := .boolean) Bd.returns (by simp) (hb hby d2_204) hr
    have J187 : ∀ (l1 : Int32) (hv : own_f2 p1 = own_f2_187 p1 l1), Steps p.tables e below (s₁.setTop (mkF m 187 #[.val (.int p1), .val (.int l1)] [])) (s₁.setFrames fs) := by
      intro l1 hv
      show Steps p.tables e below (s₁.setTop (mkF m 187 #[.val (.int p1), .val (.int l1)] [])) _
      refine XS.iloadN X0.here hx rfl (hb hby d2_187) rfl ?_
      show Steps p.tables e below (s₁.setTop (mkF m 188 #[.val (.int p1), .val (.int l1)] [(.int l1)])) _
      refine X0.ldcInt hx hown (mvT hZ (hw _ (List.mem_of_getElem? (i := 10) rfl))) (g := (mkF m 188 #[.val (.int p1), .val (.int l1)] [(.int l1)])) rfl (hb hby d2_188) _ ?_
      show Steps p.tables e below (s₁.setTop (mkF m 190 #[.val (.int p1), .val (.int l1)] [(.int (65536 : Int32)), (.int l1)])) _
      by_cases hc190 : l1 < (65536 : Int32)
      · replace hv := hv.trans (if_pos hc190)
        refine XS.icmpYes X0.here hx rfl (pc0 := 190) (pc' := 203) rfl (hb hby d2_190) rfl (tlt hc190).1 (by decide) (by decide) ?_
        exact J203 l1 hv
      · replace hv := hv.trans (if_neg hc190)
        refine XS.icmpNo X0.here hx rfl (hb hby d2_190) rfl (flt hc190).1 ?_
        show Steps p.tables e below (s₁.setTop (mkF m 193 #[.val (.int p1), .val (.int l1)] [])) _
        refine XS.iloadN X0.here hx rfl (hb hby d2_193) rfl ?_
        show Steps p.tables e below (s₁.setTop (mkF m 194 #[.val (.int p1), .val (.int l1)] [(.int l1)])) _
        refine X0.ldcInt hx hown (mvT hZ (hw _ (List.mem_of_getElem? (i := 21) rfl))) (g := (mkF m 194 #[.val (.int p1), .val (.int l1)] [(.int l1)])) rfl (hb hby d2_194) _ ?_
        show Steps p.tables e below (s₁.setTop (mkF m 196 #[.val (.int p1), .val (.int l1)] [(.int (983039 : Int32)), (.int l1)])) _
        by_cases hc196 : (983039 : Int32) < l1
        · replace hv := hv.trans (if_pos hc196)
          refine XS.icmpYes X0.here hx rfl (pc0 := 196) (pc' := 203) rfl (hb hby d2_196) rfl (tlt hc196).2.2.1 (by decide) (by decide) ?_
          exact J203 l1 hv
        · replace hv := hv.trans (if_neg hc196)
          refine XS.icmpNo X0.here hx rfl (hb hby d2_196) rfl (flt hc196).2.2.1 ?_
          exact J199 l1 hv
    have J175 : ∀ (l1 : Int32) (hv : own_f2 p1 = own_f2_175 p1 l1), Steps p.tables e below (s₁.setTop (mkF m 175 #[.val (.int p1), .val (.int l1)] [])) (s₁.setFrames fs) := by
      intro l1 hv
      show Steps p.tables e below (s₁.setTop (mkF m 175 #[.val (.int p1), .val (.int l1)] [])) _
      refine XS.iloadN X0.here hx rfl (hb hby d2_175) rfl ?_
      show Steps p.tables e below (s₁.setTop (mkF m 176 #[.val (.int p1), .val (.int l1)] [(.int l1)])) _
      refine X0.ldcInt hx hown (mvT hZ (hw _ (List.mem_of_getElem? (i := 9) rfl))) (g := (mkF m 176 #[.val (.int p1), .val (.int l1)] [(.int l1)])) rfl (hb hby d2_176) _ ?_
      show Steps p.tables e below (s₁.setTop (mkF m 178 #[.val (.int p1), .val (.int l1)] [(.int (65008 : Int32)), (.int l1)])) _
      by_cases hc178 : l1 < (65008 : Int32)
      · replace hv := hv.trans (if_pos hc178)
        refine XS.icmpYes X0.here hx rfl (pc0 := 178) (pc' := 187) rfl (hb hby d2_178) rfl (tlt hc178).1 (by decide) (by decide) ?_
        exact J187 l1 hv
      · replace hv := hv.trans (if_neg hc178)
        refine XS.icmpNo X0.here hx rfl (hb hby d2_178) rfl (flt hc178).1 ?_
        show Steps p.tables e below (s₁.setTop (mkF m 181 #[.val (.int p1), .val (.int l1)] [])) _
        refine XS.iloadN X0.here hx rfl (hb hby d2_181) rfl ?_
        show Steps p.tables e below (s₁.setTop (mkF m 182 #[.val (.int p1), .val (.int l1)] [(.int l1)])) _
        refine X0.ldcInt hx hown (mvT hZ (hw _ (List.mem_of_getElem? (i := 20) rfl))) (g := (mkF m 182 #[.val (.int p1), .val (.int l1)] [(.int l1)])) rfl (hb hby d2_182) _ ?_
        show Steps p.tables e below (s₁.setTop (mkF m 184 #[.val (.int p1), .val (.int l1)] [(.int (65533 : Int32)), (.int l1)])) _
        by_cases hc184 : (65533 : Int32) < l1
        · replace hv := hv.trans (if_pos hc184)
          refine XS.icmpNo X0.here hx rfl (hb hby d2_184) rfl (tlt hc184).2.2.2 ?_
          exact J187 l1 hv
        · replace hv := hv.trans (if_neg hc184)
          refine XS.icmpYes X0.here hx rfl (pc0 := 184) (pc' := 199) rfl (hb hby d2_184) rfl (flt hc184).2.2.2 (by decide) (by decide) ?_
          exact J199 l1 hv
    have J163 : ∀ (l1 : Int32) (hv : own_f2 p1 = own_f2_163 p1 l1), Steps p.tables e below (s₁.setTop (mkF m 163 #[.val (.int p1), .val (.int l1)] [])) (s₁.setFrames fs) := by
      intro l1 hv
      show Steps p.tables e below (s₁.setTop (mkF m 163 #[.val (.int p1), .val (.int l1)] [])) _
      refine XS.iloadN X0.here hx rfl (hb hby d2_163) rfl ?_
      show Steps p.tables e below (s₁.setTop (mkF m 164 #[.val (.int p1), .val (.int l1)] [(.int l1)])) _
      refine X0.ldcInt hx hown (mvT hZ (hw _ (List.mem_of_getElem? (i := 8) rfl))) (g := (mkF m 164 #[.val (.int p1), .val (.int l1)] [(.int l1)])) rfl (hb hby d2_164) _ ?_
      show Steps p.tables e below (s₁.setTop (mkF m 166 #[.val (.int p1), .val (.int l1)] [(.int (63744 : Int32)), (.int l1)])) _
      by_cases hc166 : l1 < (63744 : Int32)
      · replace hv := hv.trans (if_pos hc166)
        refine XS.icmpYes X0.here hx rfl (pc0 := 166) (pc' := 175) rfl (hb hby d2_166) rfl (tlt hc166).1 (by decide) (by decide) ?_
        exact J175 l1 hv
      · replace hv := hv.trans (if_neg hc166)
        refine XS.icmpNo X0.here hx rfl (hb hby d2_166) rfl (flt hc166).1 ?_
        show Steps p.tables e below (s₁.setTop (mkF m 169 #[.val (.int p1), .val (.int l1)] [])) _
        refine XS.iloadN X0.here hx rfl (hb hby d2_169) rfl ?_
        show Steps p.tables e below (s₁.setTop (mkF m 170 #[.val (.int p1), .val (.int l1)] [(.int l1)])) _
        refine X0.ldcInt hx hown (mvT hZ (hw _ (List.mem_of_getElem? (i := 19) rfl))) (g := (mkF m 170 #[.val (.int p1), .val (.int l1)] [(.int l1)])) rfl (hb hby d2_170) _ ?_
        show Steps p.tables e below (s₁.setTop (mkF m 172 #[.val (.int p1), .val (.int l1)] [(.int (64975 : Int32)), (.int l1)])) _
        by_cases hc172 : (64975 : Int32) < l1
        · replace hv := hv.trans (if_pos hc172)
          refine XS.icmpNo X0.here hx rfl (hb hby d2_172) rfl (tlt hc172).2.2.2 ?_
          exact J175 l1 hv
        · replace hv := hv.trans (if_neg hc172)
          refine XS.icmpYes X0.here hx rfl (pc0 := 172) (pc' := 199) rfl (hb hby d2_172) rfl (flt hc172).2.2.2 (by decide) (by decide) ?_
          exact J199 l1 hv
    have J150 : ∀ (l1 : Int32) (hv : own_f2 p1 = own_f2_150 p1 l1), Steps p.tables e below (s₁.setTop (mkF m 150 #[.val (.int p1), .val (.int l1)] [])) (s₁.setFrames fs) := by
      intro l1 hv
      show Steps p.tables e below (s₁.setTop (mkF m 150 #[.val (.int p1), .val (.int l1)] [])) _
      refine XS.iloadN X0.here hx rfl (hb hby d2_150) rfl ?_
      show Steps p.tables e below (s₁.setTop (mkF m 151 #[.val (.int p1), .val (.int l1)] [(.int l1)])) _
      refine XS.sipush X0.here hx rfl (hb hby d2_151) ?_
      show Steps p.tables e below (s₁.setTop (mkF m 154 #[.val (.int p1), .val (.int l1)] [(.int (12289 : Int32)), (.int l1)])) _
      by_cases hc154 : l1 < (12289 : Int32)
      · replace hv := hv.trans (if_pos hc154)
        refine XS.icmpYes X0.here hx rfl (pc0 := 154) (pc' := 163) rfl (hb hby d2_154) rfl (tlt hc154).1 (by decide) (by decide) ?_
        exact J163 l1 hv
      · replace hv := hv.trans (if_neg hc154)
        refine XS.icmpNo X0.here hx rfl (hb hby d2_154) rfl (flt hc154).1 ?_
        show Steps p.tables e below (s₁.setTop (mkF m 157 #[.val (.int p1), .val (.int l1)] [])) _
        refine XS.iloadN X0.here hx rfl (hb hby d2_157) rfl ?_
        show Steps p.tables e below (s₁.setTop (mkF m 158 #[.val (.int p1), .val (.int l1)] [(.int l1)])) _
        refine X0.ldcInt hx hown (mvT hZ (hw _ (List.mem_of_getElem? (i := 18) rfl))) (g := (mkF m 158 #[.val (.int p1), .val (.int l1)] [(.int l1)])) rfl (hb hby d2_158) _ ?_
        show Steps p.tables e below (s₁.setTop (mkF m 160 #[.val (.int p1), .val (.int l1)] [(.int (55295 : Int32)), (.int l1)])) _
        by_cases hc160 : (55295 : Int32) < l1
        · replace hv := hv.trans (if_pos hc160)
          refine XS.icmpNo X0.here hx rfl (hb hby d2_160) rfl (tlt hc160).2.2.2 ?_
          exact J163 l1 hv
        · replace hv := hv.trans (if_neg hc160)
          refine XS.icmpYes X0.here hx rfl (pc0 := 160) (pc' := 199) rfl (hb hby d2_160) rfl (flt hc160).2.2.2 (by decide) (by decide) ?_
          exact J199 l1 hv
    have J136 : ∀ (l1 : Int32) (hv : own_f2 p1 = own_f2_136 p1 l1), Steps p.tables e below (s₁.setTop (mkF m 136 #[.val (.int p1), .val (.int l1)] [])) (s₁.setFrames fs) := by
      intro l1 hv
      show Steps p.tables e below (s₁.setTop (mkF m 136 #[.val (.int p1), .val (.int l1)] [])) _
      refine XS.iloadN X0.here hx rfl (hb hby d2_136) rfl ?_
      show Steps p.tables e below (s₁.setTop (mkF m 137 #[.val (.int p1), .val (.int l1)] [(.int l1)])) _
      refine XS.sipush X0.here hx rfl (hb hby d2_137) ?_
      show Steps p.tables e below (s₁.setTop (mkF m 140 #[.val (.int p1), .val (.int l1)] [(.int (11264 : Int32)), (.int l1)])) _
      by_cases hc140 : l1 < (11264 : Int32)
      · replace hv := hv.trans (if_pos hc140)
        refine XS.icmpYes X0.here hx rfl (pc0 := 140) (pc' := 150) rfl (hb hby d2_140) rfl (tlt hc140).1 (by decide) (by decide) ?_
        exact J150 l1 hv
      · replace hv := hv.trans (if_neg hc140)
        refine XS.icmpNo X0.here hx rfl (hb hby d2_140) rfl (flt hc140).1 ?_
        show Steps p.tables e below (s₁.setTop (mkF m 143 #[.val (.int p1), .val (.int l1)] [])) _
        refine XS.iloadN X0.here hx rfl (hb hby d2_143) rfl ?_
        show Steps p.tables e below (s₁.setTop (mkF m 144 #[.val (.int p1), .val (.int l1)] [(.int l1)])) _
        refine XS.sipush X0.here hx rfl (hb hby d2_144) ?_
        show Steps p.tables e below (s₁.setTop (mkF m 147 #[.val (.int p1), .val (.int l1)] [(.int (12271 : Int32)), (.int l1)])) _
        by_cases hc147 : (12271 : Int32) < l1
        · replace hv := hv.trans (if_pos hc147)
          refine XS.icmpNo X0.here hx rfl (hb hby d2_147) rfl (tlt hc147).2.2.2 ?_
          exact J150 l1 hv
        · replace hv := hv.trans (if_neg hc147)
          refine XS.icmpYes X0.here hx rfl (pc0 := 147) (pc' := 199) rfl (hb hby d2_147) rfl (flt hc147).2.2.2 (by decide) (by decide) ?_
          exact J199 l1 hv
    have J122 : ∀ (l1 : Int32) (hv : own_f2 p1 = own_f2_122 p1 l1), Steps p.tables e below (s₁.setTop (mkF m 122 #[.val (.int p1), .val (.int l1)] [])) (s₁.setFrames fs) := by
      intro l1 hv
      show Steps p.tables e below (s₁.setTop (mkF m 122 #[.val (.int p1), .val (.int l1)] [])) _
      refine XS.iloadN X0.here hx rfl (hb hby d2_122) rfl ?_
      show Steps p.tables e below (s₁.setTop (mkF m 123 #[.val (.int p1), .val (.int l1)] [(.int l1)])) _
      refine XS.sipush X0.here hx rfl (hb hby d2_123) ?_
      show Steps p.tables e below (s₁.setTop (mkF m 126 #[.val (.int p1), .val (.int l1)] [(.int (8304 : Int32)), (.int l1)])) _
      by_cases hc126 : l1 < (8304 : Int32)
      · replace hv := hv.trans (if_pos hc126)
        refine XS.icmpYes X0.here hx rfl (pc0 := 126) (pc' := 136) rfl (hb hby d2_126) rfl (tlt hc126).1 (by decide) (by decide) ?_
        exact J136 l1 hv
      · replace hv := hv.trans (if_neg hc126)
        refine XS.icmpNo X0.here hx rfl (hb hby d2_126) rfl (flt hc126).1 ?_
        show Steps p.tables e below (s₁.setTop (mkF m 129 #[.val (.int p1), .val (.int l1)] [])) _
        refine XS.iloadN X0.here hx rfl (hb hby d2_129) rfl ?_
        show Steps p.tables e below (s₁.setTop (mkF m 130 #[.val (.int p1), .val (.int l1)] [(.int l1)])) _
        refine XS.sipush X0.here hx rfl (hb hby d2_130) ?_
        show Steps p.tables e below (s₁.setTop (mkF m 133 #[.val (.int p1), .val (.int l1)] [(.int (8591 : Int32)), (.int l1)])) _
        by_cases hc133 : (8591 : Int32) < l1
        · replace hv := hv.trans (if_pos hc133)
          refine XS.icmpNo X0.here hx rfl (hb hby d2_133) rfl (tlt hc133).2.2.2 ?_
          exact J136 l1 hv
        · replace hv := hv.trans (if_neg hc133)
          refine XS.icmpYes X0.here hx rfl (pc0 := 133) (pc' := 199) rfl (hb hby d2_133) rfl (flt hc133).2.2.2 (by decide) (by decide) ?_
          exact J199 l1 hv
    have J108 : ∀ (l1 : Int32) (hv : own_f2 p1 = own_f2_108 p1 l1), Steps p.tables e below (s₁.setTop (mkF m 108 #[.val (.int p1), .val (.int l1)] [])) (s₁.setFrames fs) := by
      intro l1 hv
      show Steps p.tables e below (s₁.setTop (mkF m 108 #[.val (.int p1), .val (.int l1)] [])) _
      refine XS.iloadN X0.here hx rfl (hb hby d2_108) rfl ?_
      show Steps p.tables e below (s₁.setTop (mkF m 109 #[.val (.int p1), .val (.int l1)] [(.int l1)])) _
      refine XS.sipush X0.here hx rfl (hb hby d2_109) ?_
      show Steps p.tables e below (s₁.setTop (mkF m 112 #[.val (.int p1), .val (.int l1)] [(.int (8204 : Int32)), (.int l1)])) _
      by_cases hc112 : l1 < (8204 : Int32)
      · replace hv := hv.trans (if_pos hc112)
        refine XS.icmpYes X0.here hx rfl (pc0 := 112) (pc' := 122) rfl (hb hby d2_112) rfl (tlt hc112).1 (by decide) (by decide) ?_
        exact J122 l1 hv
      · replace hv := hv.trans (if_neg hc112)
        refine XS.icmpNo X0.here hx rfl (hb hby d2_112) rfl (flt hc112).1 ?_
        show Steps p.tables e below (s₁.setTop (mkF m 115 #[.val (.int p1), .val (.int l1)] [])) _
        refine XS.iloadN X0.here hx rfl (hb hby d2_115) rfl ?_
        show Steps p.tables e below (s₁.setTop (mkF m 116 #[.val (.int p1), .val (.int l1)] [(.int l1)])) _
        refine XS.sipush X0.here hx rfl (hb hby d2_116) ?_
        show Steps p.tables e below (s₁.setTop (mkF m 119 #[.val (.int p1), .val (.int l1)] [(.int (8205 : Int32)), (.int l1)])) _
        by_cases hc119 : (8205 : Int32) < l1
        · replace hv := hv.trans (if_pos hc119)
          refine XS.icmpNo X0.here hx rfl (hb hby d2_119) rfl (tlt hc119).2.2.2 ?_
          exact J122 l1 hv
        · replace hv := hv.trans (if_neg hc119)
          refine XS.icmpYes X0.here hx rfl (pc0 := 119) (pc' := 199) rfl (hb hby d2_119) rfl (flt hc119).2.2.2 (by decide) (by decide) ?_
          exact J199 l1 hv
    have J94 : ∀ (l1 : Int32) (hv : own_f2 p1 = own_f2_94 p1 l1), Steps p.tables e below (s₁.setTop (mkF m 94 #[.val (.int p1), .val (.int l1)] [])) (s₁.setFrames fs) := by
      intro l1 hv
      show Steps p.tables e below (s₁.setTop (mkF m 94 #[.val (.int p1), .val (.int l1)] [])) _
      refine XS.iloadN X0.here hx rfl (hb hby d2_94) rfl ?_
      show Steps p.tables e below (s₁.setTop (mkF m 95 #[.val (.int p1), .val (.int l1)] [(.int l1)])) _
      refine XS.sipush X0.here hx rfl (hb hby d2_95) ?_
      show Steps p.tables e below (s₁.setTop (mkF m 98 #[.val (.int p1), .val (.int l1)] [(.int (895 : Int32)), (.int l1)])) _
      by_cases hc98 : l1 < (895 : Int32)
      · replace hv := hv.trans (if_pos hc98)
        refine XS.icmpYes X0.here hx rfl (pc0 := 98) (pc' := 108) rfl (hb hby d2_98) rfl (tlt hc98).1 (by decide) (by decide) ?_
        exact J108 l1 hv
      · replace hv := hv.trans (if_neg hc98)
        refine XS.icmpNo X0.here hx rfl (hb hby d2_98) rfl (flt hc98).1 ?_
        show Steps p.tables e below (s₁.setTop (mkF m 101 #[.val (.int p1), .val (.int l1)] [])) _
        refine XS.iloadN X0.here hx rfl (hb hby d2_101) rfl ?_
        show Steps p.tables e below (s₁.setTop (mkF m 102 #[.val (.int p1), .val (.int l1)] [(.int l1)])) _
        refine XS.sipush X0.here hx rfl (hb hby d2_102) ?_
        show Steps p.tables e below (s₁.setTop (mkF m 105 #[.val (.int p1), .val (.int l1)] [(.int (8191 : Int32)), (.int l1)])) _
        by_cases hc105 : (8191 : Int32) < l1
        · replace hv := hv.trans (if_pos hc105)
          refine XS.icmpNo X0.here hx rfl (hb hby d2_105) rfl (tlt hc105).2.2.2 ?_
          exact J108 l1 hv
        · replace hv := hv.trans (if_neg hc105)
          refine XS.icmpYes X0.here hx rfl (pc0 := 105) (pc' := 199) rfl (hb hby d2_105) rfl (flt hc105).2.2.2 (by decide) (by decide) ?_
          exact J199 l1 hv
    have J80 : ∀ (l1 : Int32) (hv : own_f2 p1 = own_f2_80 p1 l1), Steps p.tables e below (s₁.setTop (mkF m 80 #[.val (.int p1), .val (.int l1)] [])) (s₁.setFrames fs) := by
      intro l1 hv
      show Steps p.tables e below (s₁.setTop (mkF m 80 #[.val (.int p1), .val (.int l1)] [])) _
      refine XS.iloadN X0.here hx rfl (hb hby d2_80) rfl ?_
      show Steps p.tables e below (s₁.setTop (mkF m 81 #[.val (.int p1), .val (.int l1)] [(.int l1)])) _
      refine XS.sipush X0.here hx rfl (hb hby d2_81) ?_
      show Steps p.tables e below (s₁.setTop (mkF m 84 #[.val (.int p1), .val (.int l1)] [(.int (880 : Int32)), (.int l1)])) _
      by_cases hc84 : l1 < (880 : Int32)
      · replace hv := hv.trans (if_pos hc84)
        refine XS.icmpYes X0.here hx rfl (pc0 := 84) (pc' := 94) rfl (hb hby d2_84) rfl (tlt hc84).1 (by decide) (by decide) ?_
        exact J94 l1 hv
      · replace hv := hv.trans (if_neg hc84)
        refine XS.icmpNo X0.here hx rfl (hb hby d2_84) rfl (flt hc84).1 ?_
        show Steps p.tables e below (s₁.setTop (mkF m 87 #[.val (.int p1), .val (.int l1)] [])) _
        refine XS.iloadN X0.here hx rfl (hb hby d2_87) rfl ?_
        show Steps p.tables e below (s₁.setTop (mkF m 88 #[.val (.int p1), .val (.int l1)] [(.int l1)])) _
        refine XS.sipush X0.here hx rfl (hb hby d2_88) ?_
        show Steps p.tables e below (s₁.setTop (mkF m 91 #[.val (.int p1), .val (.int l1)] [(.int (893 : Int32)), (.int l1)])) _
        by_cases hc91 : (893 : Int32) < l1
        · replace hv := hv.trans (if_pos hc91)
          refine XS.icmpNo X0.here hx rfl (hb hby d2_91) rfl (tlt hc91).2.2.2 ?_
          exact J94 l1 hv
        · replace hv := hv.trans (if_neg hc91)
          refine XS.icmpYes X0.here hx rfl (pc0 := 91) (pc' := 199) rfl (hb hby d2_91) rfl (flt hc91).2.2.2 (by decide) (by decide) ?_
          exact J199 l1 hv
    have J66 : ∀ (l1 : Int32) (hv : own_f2 p1 = own_f2_66 p1 l1), Steps p.tables e below (s₁.setTop (mkF m 66 #[.val (.int p1), .val (.int l1)] [])) (s₁.setFrames fs) := by
      intro l1 hv
      show Steps p.tables e below (s₁.setTop (mkF m 66 #[.val (.int p1), .val (.int l1)] [])) _
      refine XS.iloadN X0.here hx rfl (hb hby d2_66) rfl ?_
      show Steps p.tables e below (s₁.setTop (mkF m 67 #[.val (.int p1), .val (.int l1)] [(.int l1)])) _
      refine XS.sipush X0.here hx rfl (hb hby d2_67) ?_
      show Steps p.tables e below (s₁.setTop (mkF m 70 #[.val (.int p1), .val (.int l1)] [(.int (248 : Int32)), (.int l1)])) _
      by_cases hc70 : l1 < (248 : Int32)
      · replace hv := hv.trans (if_pos hc70)
        refine XS.icmpYes X0.here hx rfl (pc0 := 70) (pc' := 80) rfl (hb hby d2_70) rfl (tlt hc70).1 (by decide) (by decide) ?_
        exact J80 l1 hv
      · replace hv := hv.trans (if_neg hc70)
        refine XS.icmpNo X0.here hx rfl (hb hby d2_70) rfl (flt hc70).1 ?_
        show Steps p.tables e below (s₁.setTop (mkF m 73 #[.val (.int p1), .val (.int l1)] [])) _
        refine XS.iloadN X0.here hx rfl (hb hby d2_73) rfl ?_
        show Steps p.tables e below (s₁.setTop (mkF m 74 #[.val (.int p1), .val (.int l1)] [(.int l1)])) _
        refine XS.sipush X0.here hx rfl (hb hby d2_74) ?_
        show Steps p.tables e below (s₁.setTop (mkF m 77 #[.val (.int p1), .val (.int l1)] [(.int (767 : Int32)), (.int l1)])) _
        by_cases hc77 : (767 : Int32) < l1
        · replace hv := hv.trans (if_pos hc77)
          refine XS.icmpNo X0.here hx rfl (hb hby d2_77) rfl (tlt hc77).2.2.2 ?_
          exact J80 l1 hv
        · replace hv := hv.trans (if_neg hc77)
          refine XS.icmpYes X0.here hx rfl (pc0 := 77) (pc' := 199) rfl (hb hby d2_77) rfl (flt hc77).2.2.2 (by decide) (by decide) ?_
          exact J199 l1 hv
    have J52 : ∀ (l1 : Int32) (hv : own_f2 p1 = own_f2_52 p1 l1), Steps p.tables e below (s₁.setTop (mkF m 52 #[.val (.int p1), .val (.int l1)] [])) (s₁.setFrames fs) := by
      intro l1 hv
      show Steps p.tables e below (s₁.setTop (mkF m 52 #[.val (.int p1), .val (.int l1)] [])) _
      refine XS.iloadN X0.here hx rfl (hb hby d2_52) rfl ?_
      show Steps p.tables e below (s₁.setTop (mkF m 53 #[.val (.int p1), .val (.int l1)] [(.int l1)])) _
      refine XS.sipush X0.here hx rfl (hb hby d2_53) ?_
      show Steps p.tables e below (s₁.setTop (mkF m 56 #[.val (.int p1), .val (.int l1)] [(.int (216 : Int32)), (.int l1)])) _
      by_cases hc56 : l1 < (216 : Int32)
      · replace hv := hv.trans (if_pos hc56)
        refine XS.icmpYes X0.here hx rfl (pc0 := 56) (pc' := 66) rfl (hb hby d2_56) rfl (tlt hc56).1 (by decide) (by decide) ?_
        exact J66 l1 hv
      · replace hv := hv.trans (if_neg hc56)
        refine XS.icmpNo X0.here hx rfl (hb hby d2_56) rfl (flt hc56).1 ?_
        show Steps p.tables e below (s₁.setTop (mkF m 59 #[.val (.int p1), .val (.int l1)] [])) _
        refine XS.iloadN X0.here hx rfl (hb hby d2_59) rfl ?_
        show Steps p.tables e below (s₁.setTop (mkF m 60 #[.val (.int p1), .val (.int l1)] [(.int l1)])) _
        refine XS.sipush X0.here hx rfl (hb hby d2_60) ?_
        show Steps p.tables e below (s₁.setTop (mkF m 63 #[.val (.int p1), .val (.int l1)] [(.int (246 : Int32)), (.int l1)])) _
        by_cases hc63 : (246 : Int32) < l1
        · replace hv := hv.trans (if_pos hc63)
          refine XS.icmpNo X0.here hx rfl (hb hby d2_63) rfl (tlt hc63).2.2.2 ?_
          exact J66 l1 hv
        · replace hv := hv.trans (if_neg hc63)
          refine XS.icmpYes X0.here hx rfl (pc0 := 63) (pc' := 199) rfl (hb hby d2_63) rfl (flt hc63).2.2.2 (by decide) (by decide) ?_
          exact J199 l1 hv
    have J38 : ∀ (l1 : Int32) (hv : own_f2 p1 = own_f2_38 p1 l1), Steps p.tables e below (s₁.setTop (mkF m 38 #[.val (.int p1), .val (.int l1)] [])) (s₁.setFrames fs) := by
      intro l1 hv
      show Steps p.tables e below (s₁.setTop (mkF m 38 #[.val (.int p1), .val (.int l1)] [])) _
      refine XS.iloadN X0.here hx rfl (hb hby d2_38) rfl ?_
      show Steps p.tables e below (s₁.setTop (mkF m 39 #[.val (.int p1), .val (.int l1)] [(.int l1)])) _
      refine XS.sipush X0.here hx rfl (hb hby d2_39) ?_
      show Steps p.tables e below (s₁.setTop (mkF m 42 #[.val (.int p1), .val (.int l1)] [(.int (192 : Int32)), (.int l1)])) _
      by_cases hc42 : l1 < (192 : Int32)
      · replace hv := hv.trans (if_pos hc42)
        refine XS.icmpYes X0.here hx rfl (pc0 := 42) (pc' := 52) rfl (hb hby d2_42) rfl (tlt hc42).1 (by decide) (by decide) ?_
        exact J52 l1 hv
      · replace hv := hv.trans (if_neg hc42)
        refine XS.icmpNo X0.here hx rfl (hb hby d2_42) rfl (flt hc42).1 ?_
        show Steps p.tables e below (s₁.setTop (mkF m 45 #[.val (.int p1), .val (.int l1)] [])) _
        refine XS.iloadN X0.here hx rfl (hb hby d2_45) rfl ?_
        show Steps p.tables e below (s₁.setTop (mkF m 46 #[.val (.int p1), .val (.int l1)] [(.int l1)])) _
        refine XS.sipush X0.here hx rfl (hb hby d2_46) ?_
        show Steps p.tables e below (s₁.setTop (mkF m 49 #[.val (.int p1), .val (.int l1)] [(.int (214 : Int32)), (.int l1)])) _
        by_cases hc49 : (214 : Int32) < l1
        · replace hv := hv.trans (if_pos hc49)
          refine XS.icmpNo X0.here hx rfl (hb hby d2_49) rfl (tlt hc49).2.2.2 ?_
          exact J52 l1 hv
        · replace hv := hv.trans (if_neg hc49)
          refine XS.icmpYes X0.here hx rfl (pc0 := 49) (pc' := 199) rfl (hb hby d2_49) rfl (flt hc49).2.2.2 (by decide) (by decide) ?_
          exact J199 l1 hv
    have J26 : ∀ (l1 : Int32) (hv : own_f2 p1 = own_f2_26 p1 l1), Steps p.tables e below (s₁.setTop (mkF m 26 #[.val (.int p1), .val (.int l1)] [])) (s₁.setFrames fs) := by
      intro l1 hv
      show Steps p.tables e below (s₁.setTop (mkF m 26 #[.val (.int p1), .val (.int l1)] [])) _
      refine XS.iloadN X0.here hx rfl (hb hby d2_26) rfl ?_
      show Steps p.tables e below (s₁.setTop (mkF m 27 #[.val (.int p1), .val (.int l1)] [(.int l1)])) _
      refine XS.bipush X0.here hx rfl (hb hby d2_27) ?_
      show Steps p.tables e below (s₁.setTop (mkF m 29 #[.val (.int p1), .val (.int l1)] [(.int (97 : Int32)), (.int l1)])) _
      by_cases hc29 : l1 < (97 : Int32)
      · replace hv := hv.trans (if_pos hc29)
        refine XS.icmpYes X0.here hx rfl (pc0 := 29) (pc' := 38) rfl (hb hby d2_29) rfl (tlt hc29).1 (by decide) (by decide) ?_
        exact J38 l1 hv
      · replace hv := hv.trans (if_neg hc29)
        refine XS.icmpNo X0.here hx rfl (hb hby d2_29) rfl (flt hc29).1 ?_
        show Steps p.tables e below (s₁.setTop (mkF m 32 #[.val (.int p1), .val (.int l1)] [])) _
        refine XS.iloadN X0.here hx rfl (hb hby d2_32) rfl ?_
        show Steps p.tables e below (s₁.setTop (mkF m 33 #[.val (.int p1), .val (.int l1)] [(.int l1)])) _
        refine XS.bipush X0.here hx rfl (hb hby d2_33) ?_
        show Steps p.tables e below (s₁.setTop (mkF m 35 #[.val (.int p1), .val (.int l1)] [(.int (122 : Int32)), (.int l1)])) _
        by_cases hc35 : (122 : Int32) < l1
        · replace hv := hv.trans (if_pos hc35)
          refine XS.icmpNo X0.here hx rfl (hb hby d2_35) rfl (tlt hc35).2.2.2 ?_
          exact J38 l1 hv
        · replace hv := hv.trans (if_neg hc35)
          refine XS.icmpYes X0.here hx rfl (pc0 := 35) (pc' := 199) rfl (hb hby d2_35) rfl (flt hc35).2.2.2 (by decide) (by decide) ?_
          exact J199 l1 hv
    have J0 : ∀ (hv : own_f2 p1 = own_f2 p1 ), Steps p.tables e below (s₁.setTop (mkF m 0 #[.val (.int p1), .unset] [])) (s₁.setFrames fs) := by
      intro hv
      show Steps p.tables e below (s₁.setTop (mkF m 0 #[.val (.int p1), .unset] [])) _
      refine XS.iloadN X0.here hx rfl (hb hby d2_0) rfl ?_
      show Steps p.tables e below (s₁.setTop (mkF m 1 #[.val (.int p1), .unset] [(.int p1)])) _
      refine XS.istoreN X0.here hx rfl (hb hby d2_1) rfl (l' := #[.val (.int p1), .val (.int p1)]) rfl ?_
      show Steps p.tables e below (s₁.setTop (mkF m 2 #[.val (.int p1), .val (.int p1)] [])) _
      refine XS.iloadN X0.here hx rfl (hb hby d2_2) rfl ?_
      show Steps p.tables e below (s₁.setTop (mkF m 3 #[.val (.int p1), .val (.int p1)] [(.int p1)])) _
      refine XS.bipush X0.here hx rfl (hb hby d2_3) ?_
      show Steps p.tables e below (s₁.setTop (mkF m 5 #[.val (.int p1), .val (.int p1)] [(.int (58 : Int32)), (.int p1)])) _
      by_cases hc5 : p1 = (58 : Int32)
      · replace hv := hv.trans (if_pos hc5)
        refine XS.icmpYes X0.here hx rfl (pc0 := 5) (pc' := 199) rfl (hb hby d2_5) rfl (teq hc5).1 (by decide) (by decide) ?_
        exact J199 p1 hv
      · replace hv := hv.trans (if_neg hc5)
        refine XS.icmpNo X0.here hx rfl (hb hby d2_5) rfl (feq hc5).1 ?_
        show Steps p.tables e below (s₁.setTop (mkF m 8 #[.val (.int p1), .val (.int p1)] [])) _
        refine XS.iloadN X0.here hx rfl (hb hby d2_8) rfl ?_
        show Steps p.tables e below (s₁.setTop (mkF m 9 #[.val (.int p1), .val (.int p1)] [(.int p1)])) _
        refine XS.bipush X0.here hx rfl (hb hby d2_9) ?_
        show Steps p.tables e below (s₁.setTop (mkF m 11 #[.val (.int p1), .val (.int p1)] [(.int (95 : Int32)), (.int p1)])) _
        by_cases hc11 : p1 = (95 : Int32)
        · replace hv := hv.trans (if_pos hc11)
          refine XS.icmpYes X0.here hx rfl (pc0 := 11) (pc' := 199) rfl (hb hby d2_11) rfl (teq hc11).1 (by decide) (by decide) ?_
          exact J199 p1 hv
        · replace hv := hv.trans (if_neg hc11)
          refine XS.icmpNo X0.here hx rfl (hb hby d2_11) rfl (feq hc11).1 ?_
          show Steps p.tables e below (s₁.setTop (mkF m 14 #[.val (.int p1), .val (.int p1)] [])) _
          refine XS.iloadN X0.here hx rfl (hb hby d2_14) rfl ?_
          show Steps p.tables e below (s₁.setTop (mkF m 15 #[.val (.int p1), .val (.int p1)] [(.int p1)])) _
          refine XS.bipush X0.here hx rfl (hb hby d2_15) ?_
          show Steps p.tables e below (s₁.setTop (mkF m 17 #[.val (.int p1), .val (.int p1)] [(.int (65 : Int32)), (.int p1)])) _
          by_cases hc17 : p1 < (65 : Int32)
          · replace hv := hv.trans (if_pos hc17)
            refine XS.icmpYes X0.here hx rfl (pc0 := 17) (pc' := 26) rfl (hb hby d2_17) rfl (tlt hc17).1 (by decide) (by decide) ?_
            exact J26 p1 hv
          · replace hv := hv.trans (if_neg hc17)
            refine XS.icmpNo X0.here hx rfl (hb hby d2_17) rfl (flt hc17).1 ?_
            show Steps p.tables e below (s₁.setTop (mkF m 20 #[.val (.int p1), .val (.int p1)] [])) _
            refine XS.iloadN X0.here hx rfl (hb hby d2_20) rfl ?_
            show Steps p.tables e below (s₁.setTop (mkF m 21 #[.val (.int p1), .val (.int p1)] [(.int p1)])) _
            refine XS.bipush X0.here hx rfl (hb hby d2_21) ?_
            show Steps p.tables e below (s₁.setTop (mkF m 23 #[.val (.int p1), .val (.int p1)] [(.int (90 : Int32)), (.int p1)])) _
            by_cases hc23 : (90 : Int32) < p1
            · replace hv := hv.trans (if_pos hc23)
              refine XS.icmpNo X0.here hx rfl (hb hby d2_23) rfl (tlt hc23).2.2.2 ?_
              exact J26 p1 hv
            · replace hv := hv.trans (if_neg hc23)
              refine XS.icmpYes X0.here hx rfl (pc0 := 23) (pc' := 199) rfl (hb hby d2_23) rfl (flt hc23).2.2.2 (by decide) (by decide) ?_
              exact J199 p1 hv
    exact J0 rfl
  · show Q2 p1 h0 n0 _ s₁.heap _
    rw [e0]
    exact ⟨rfl, N0, rfl⟩

theorem own_range {c lo hi v : Int32} : (if c < lo then v else if hi < c then v else (1 : Int32)) = 1 ↔ (lo.toInt ≤ c.toInt ∧ c.toInt ≤ hi.toInt) ∨ v = 1 := by
  by_cases h1 : c < lo
  · rw [if_pos h1]; rw [Int32.lt_iff_toInt_lt] at h1
    exact ⟨Or.inr, fun h => h.elim (fun q => absurd q.1 (by omega)) id⟩
  · rw [if_neg h1]; rw [Int32.lt_iff_toInt_lt] at h1
    by_cases h2 : hi < c
    · rw [if_pos h2]; rw [Int32.lt_iff_toInt_lt] at h2
      exact ⟨Or.inr, fun h => h.elim (fun q => absurd q.2 (by omega)) id⟩
    · rw [if_neg h2]; rw [Int32.lt_iff_toInt_lt] at h2
      exact ⟨fun _ => Or.inl ⟨by omega, by omega⟩, fun _ => rfl⟩
theorem own_point {c k v : Int32} : (if c = k then (1 : Int32) else v) = 1 ↔ (k.toInt ≤ c.toInt ∧ c.toInt ≤ k.toInt) ∨ v = 1 := by
  by_cases h : c = k
  · subst h; simp
  · rw [if_neg h]
    exact ⟨Or.inr, fun q => q.elim (fun r => absurd (Int32.toInt_inj.mp (by omega)) h) id⟩
theorem own_below {c k v : Int32} : (if c < k then (1 : Int32) else v) = 1 ↔ c.toInt < k.toInt ∨ v = 1 := by
  by_cases h : c < k
  · rw [if_pos h]; rw [Int32.lt_iff_toInt_lt] at h; simp [h]
  · rw [if_neg h]; rw [Int32.lt_iff_toInt_lt] at h; simp [h]
theorem own_above {c k : Int32} : (if c < k then (0 : Int32) else 1) = 1 ↔ k.toInt ≤ c.toInt := by
  by_cases h : c < k
  · rw [if_pos h]; rw [Int32.lt_iff_toInt_lt] at h
    exact ⟨fun q => absurd q (by decide), fun q => absurd q (by omega)⟩
  · rw [if_neg h]; rw [Int32.lt_iff_toInt_lt] at h
    exact ⟨fun _ => by omega, fun _ => rfl⟩
theorem own_step {a b z : Int} (h : a ≤ z) (n : ¬ (a ≤ z ∧ z ≤ b)) : b + 1 ≤ z := by omega

theorem own_g_f1_208 (c : Int32) : own_f1_208 c = 1 ↔ 983040 ≤ c.toInt := own_above
theorem own_g_f1_194 (c : Int32) : own_f1_194 c = 1 ↔ (65534 ≤ c.toInt ∧ c.toInt ≤ 65535) ∨ own_f1_208 c = 1 := own_range
theorem own_g_f1_180 (c : Int32) : own_f1_180 c = 1 ↔ (64976 ≤ c.toInt ∧ c.toInt ≤ 65007) ∨ own_f1_194 c = 1 := own_range
theorem own_g_f1_166 (c : Int32) : own_f1_166 c = 1 ↔ (55296 ≤ c.toInt ∧ c.toInt ≤ 63743) ∨ own_f1_180 c = 1 := own_range
theorem own_g_f1_150 (c : Int32) : own_f1_150 c = 1 ↔ (12272 ≤ c.toInt ∧ c.toInt ≤ 12288) ∨ own_f1_166 c = 1 := own_range
theorem own_g_f1_134 (c : Int32) : own_f1_134 c = 1 ↔ (8592 ≤ c.toInt ∧ c.toInt ≤ 11263) ∨ own_f1_150 c = 1 := own_range
theorem own_g_f1_118 (c : Int32) : own_f1_118 c = 1 ↔ (8206 ≤ c.toInt ∧ c.toInt ≤ 8303) ∨ own_f1_134 c = 1 := own_range
theorem own_g_f1_93 (c : Int32) : own_f1_93 c = 1 ↔ (894 ≤ c.toInt ∧ c.toInt ≤ 894) ∨ (8192 ≤ c.toInt ∧ c.toInt ≤ 8203) ∨ own_f1_118 c = 1 := own_point.trans (or_congr Iff.rfl (own_range))
theorem own_g_f1_59 (c : Int32) : own_f1_59 c = 1 ↔ (215 ≤ c.toInt ∧ c.toInt ≤ 215) ∨ (247 ≤ c.toInt ∧ c.toInt ≤ 247) ∨ (768 ≤ c.toInt ∧ c.toInt ≤ 879) ∨ own_f1_93 c = 1 := own_point.trans (or_congr Iff.rfl (own_point.trans (or_congr Iff.rfl (own_range))))
theorem own_g_f1_36 (c : Int32) : own_f1_36 c = 1 ↔ (96 ≤ c.toInt ∧ c.toInt ≤ 96) ∨ (123 ≤ c.toInt ∧ c.toInt ≤ 191) ∨ own_f1_59 c = 1 := own_point.trans (or_congr Iff.rfl (own_range))
theorem own_g_f1_22 (c : Int32) : own_f1_22 c = 1 ↔ (91 ≤ c.toInt ∧ c.toInt ≤ 94) ∨ own_f1_36 c = 1 := own_range
theorem own_g_f1 (c : Int32) : own_f1 c = 1 ↔ c.toInt < 58 ∨ (59 ≤ c.toInt ∧ c.toInt ≤ 64) ∨ own_f1_22 c = 1 := own_below.trans (or_congr Iff.rfl (own_range))
theorem own_z203 (c : Int32) : ¬ own_f2_203 c c = 1 := fun h => absurd (show (0 : Int32) = 1 from h) (by decide)
theorem own_g_f2_187 (c : Int32) : own_f2_187 c c = 1 ↔ (65536 ≤ c.toInt ∧ c.toInt ≤ 983039) ∨ own_f2_203 c c = 1 := own_range
theorem own_g_f2_175 (c : Int32) : own_f2_175 c c = 1 ↔ (65008 ≤ c.toInt ∧ c.toInt ≤ 65533) ∨ own_f2_187 c c = 1 := own_range
theorem own_g_f2_163 (c : Int32) : own_f2_163 c c = 1 ↔ (63744 ≤ c.toInt ∧ c.toInt ≤ 64975) ∨ own_f2_175 c c = 1 := own_range
theorem own_g_f2_150 (c : Int32) : own_f2_150 c c = 1 ↔ (12289 ≤ c.toInt ∧ c.toInt ≤ 55295) ∨ own_f2_163 c c = 1 := own_range
theorem own_g_f2_136 (c : Int32) : own_f2_136 c c = 1 ↔ (11264 ≤ c.toInt ∧ c.toInt ≤ 12271) ∨ own_f2_150 c c = 1 := own_range
theorem own_g_f2_122 (c : Int32) : own_f2_122 c c = 1 ↔ (8304 ≤ c.toInt ∧ c.toInt ≤ 8591) ∨ own_f2_136 c c = 1 := own_range
theorem own_g_f2_108 (c : Int32) : own_f2_108 c c = 1 ↔ (8204 ≤ c.toInt ∧ c.toInt ≤ 8205) ∨ own_f2_122 c c = 1 := own_range
theorem own_g_f2_94 (c : Int32) : own_f2_94 c c = 1 ↔ (895 ≤ c.toInt ∧ c.toInt ≤ 8191) ∨ own_f2_108 c c = 1 := own_range
theorem own_g_f2_80 (c : Int32) : own_f2_80 c c = 1 ↔ (880 ≤ c.toInt ∧ c.toInt ≤ 893) ∨ own_f2_94 c c = 1 := own_range
theorem own_g_f2_66 (c : Int32) : own_f2_66 c c = 1 ↔ (248 ≤ c.toInt ∧ c.toInt ≤ 767) ∨ own_f2_80 c c = 1 := own_range
theorem own_g_f2_52 (c : Int32) : own_f2_52 c c = 1 ↔ (216 ≤ c.toInt ∧ c.toInt ≤ 246) ∨ own_f2_66 c c = 1 := own_range
theorem own_g_f2_38 (c : Int32) : own_f2_38 c c = 1 ↔ (192 ≤ c.toInt ∧ c.toInt ≤ 214) ∨ own_f2_52 c c = 1 := own_range
theorem own_g_f2_26 (c : Int32) : own_f2_26 c c = 1 ↔ (97 ≤ c.toInt ∧ c.toInt ≤ 122) ∨ own_f2_38 c c = 1 := own_range
theorem own_g_f2 (c : Int32) : own_f2 c = 1 ↔ (58 ≤ c.toInt ∧ c.toInt ≤ 58) ∨ (95 ≤ c.toInt ∧ c.toInt ≤ 95) ∨ (65 ≤ c.toInt ∧ c.toInt ≤ 90) ∨ own_f2_26 c c = 1 := own_point.trans (or_congr Iff.rfl (own_point.trans (or_congr Iff.rfl (own_range))))
theorem own_b_f1_208 (c : Int32) : own_f1_208 c = 0 ∨ own_f1_208 c = 1 := by
  unfold own_f1_208
  repeat' split
  all_goals first | exact Or.inr rfl | exact Or.inl rfl
theorem own_b_f1_194 (c : Int32) : own_f1_194 c = 0 ∨ own_f1_194 c = 1 := by
  unfold own_f1_194
  repeat' split
  all_goals first | exact Or.inr rfl | exact Or.inl rfl | exact own_b_f1_208 c
theorem own_b_f1_180 (c : Int32) : own_f1_180 c = 0 ∨ own_f1_180 c = 1 := by
  unfold own_f1_180
  repeat' split
  all_goals first | exact Or.inr rfl | exact Or.inl rfl | exact own_b_f1_194 c
theorem own_b_f1_166 (c : Int32) : own_f1_166 c = 0 ∨ own_f1_166 c = 1 := by
  unfold own_f1_166
  repeat' split
  all_goals first | exact Or.inr rfl | exact Or.inl rfl | exact own_b_f1_180 c
theorem own_b_f1_150 (c : Int32) : own_f1_150 c = 0 ∨ own_f1_150 c = 1 := by
  unfold own_f1_150
  repeat' split
  all_goals first | exact Or.inr rfl | exact Or.inl rfl | exact own_b_f1_166 c
theorem own_b_f1_134 (c : Int32) : own_f1_134 c = 0 ∨ own_f1_134 c = 1 := by
  unfold own_f1_134
  repeat' split
  all_goals first | exact Or.inr rfl | exact Or.inl rfl | exact own_b_f1_150 c
theorem own_b_f1_118 (c : Int32) : own_f1_118 c = 0 ∨ own_f1_118 c = 1 := by
  unfold own_f1_118
  repeat' split
  all_goals first | exact Or.inr rfl | exact Or.inl rfl | exact own_b_f1_134 c
theorem own_b_f1_93 (c : Int32) : own_f1_93 c = 0 ∨ own_f1_93 c = 1 := by
  unfold own_f1_93
  repeat' split
  all_goals first | exact Or.inr rfl | exact Or.inl rfl | exact own_b_f1_118 c
theorem own_b_f1_59 (c : Int32) : own_f1_59 c = 0 ∨ own_f1_59 c = 1 := by
  unfold own_f1_59
  repeat' split
  all_goals first | exact Or.inr rfl | exact Or.inl rfl | exact own_b_f1_93 c
theorem own_b_f1_36 (c : Int32) : own_f1_36 c = 0 ∨ own_f1_36 c = 1 := by
  unfold own_f1_36
  repeat' split
  all_goals first | exact Or.inr rfl | exact Or.inl rfl | exact own_b_f1_59 c
theorem own_b_f1_22 (c : Int32) : own_f1_22 c = 0 ∨ own_f1_22 c = 1 := by
  unfold own_f1_22
  repeat' split
  all_goals first | exact Or.inr rfl | exact Or.inl rfl | exact own_b_f1_36 c
theorem own_b_f1 (c : Int32) : own_f1 c = 0 ∨ own_f1 c = 1 := by
  unfold own_f1
  repeat' split
  all_goals first | exact Or.inr rfl | exact Or.inl rfl | exact own_b_f1_22 c
theorem own_b_f2_203 (c : Int32) : own_f2_203 c c = 0 ∨ own_f2_203 c c = 1 := Or.inl rfl
theorem own_b_f2_187 (c : Int32) : own_f2_187 c c = 0 ∨ own_f2_187 c c = 1 := by
  unfold own_f2_187
  repeat' split
  all_goals first | exact Or.inr rfl | exact Or.inl rfl | exact own_b_f2_203 c
theorem own_b_f2_175 (c : Int32) : own_f2_175 c c = 0 ∨ own_f2_175 c c = 1 := by
  unfold own_f2_175
  repeat' split
  all_goals first | exact Or.inr rfl | exact Or.inl rfl | exact own_b_f2_187 c
theorem own_b_f2_163 (c : Int32) : own_f2_163 c c = 0 ∨ own_f2_163 c c = 1 := by
  unfold own_f2_163
  repeat' split
  all_goals first | exact Or.inr rfl | exact Or.inl rfl | exact own_b_f2_175 c
theorem own_b_f2_150 (c : Int32) : own_f2_150 c c = 0 ∨ own_f2_150 c c = 1 := by
  unfold own_f2_150
  repeat' split
  all_goals first | exact Or.inr rfl | exact Or.inl rfl | exact own_b_f2_163 c
theorem own_b_f2_136 (c : Int32) : own_f2_136 c c = 0 ∨ own_f2_136 c c = 1 := by
  unfold own_f2_136
  repeat' split
  all_goals first | exact Or.inr rfl | exact Or.inl rfl | exact own_b_f2_150 c
theorem own_b_f2_122 (c : Int32) : own_f2_122 c c = 0 ∨ own_f2_122 c c = 1 := by
  unfold own_f2_122
  repeat' split
  all_goals first | exact Or.inr rfl | exact Or.inl rfl | exact own_b_f2_136 c
theorem own_b_f2_108 (c : Int32) : own_f2_108 c c = 0 ∨ own_f2_108 c c = 1 := by
  unfold own_f2_108
  repeat' split
  all_goals first | exact Or.inr rfl | exact Or.inl rfl | exact own_b_f2_122 c
theorem own_b_f2_94 (c : Int32) : own_f2_94 c c = 0 ∨ own_f2_94 c c = 1 := by
  unfold own_f2_94
  repeat' split
  all_goals first | exact Or.inr rfl | exact Or.inl rfl | exact own_b_f2_108 c
theorem own_b_f2_80 (c : Int32) : own_f2_80 c c = 0 ∨ own_f2_80 c c = 1 := by
  unfold own_f2_80
  repeat' split
  all_goals first | exact Or.inr rfl | exact Or.inl rfl | exact own_b_f2_94 c
theorem own_b_f2_66 (c : Int32) : own_f2_66 c c = 0 ∨ own_f2_66 c c = 1 := by
  unfold own_f2_66
  repeat' split
  all_goals first | exact Or.inr rfl | exact Or.inl rfl | exact own_b_f2_80 c
theorem own_b_f2_52 (c : Int32) : own_f2_52 c c = 0 ∨ own_f2_52 c c = 1 := by
  unfold own_f2_52
  repeat' split
  all_goals first | exact Or.inr rfl | exact Or.inl rfl | exact own_b_f2_66 c
theorem own_b_f2_38 (c : Int32) : own_f2_38 c c = 0 ∨ own_f2_38 c c = 1 := by
  unfold own_f2_38
  repeat' split
  all_goals first | exact Or.inr rfl | exact Or.inl rfl | exact own_b_f2_52 c
theorem own_b_f2_26 (c : Int32) : own_f2_26 c c = 0 ∨ own_f2_26 c c = 1 := by
  unfold own_f2_26
  repeat' split
  all_goals first | exact Or.inr rfl | exact Or.inl rfl | exact own_b_f2_38 c
theorem own_b_f2 (c : Int32) : own_f2 c = 0 ∨ own_f2 c = 1 := by
  unfold own_f2
  repeat' split
  all_goals first | exact Or.inr rfl | exact Or.inl rfl | exact own_b_f2_26 c
theorem own_all (c : Int32) : own_f2 c = 1 ↔ ¬ own_f1 c = 1 := by
  rw [own_g_f1, own_g_f1_22, own_g_f1_36, own_g_f1_59, own_g_f1_93, own_g_f1_118, own_g_f1_134, own_g_f1_150, own_g_f1_166, own_g_f1_180, own_g_f1_194, own_g_f1_208]
  rw [own_g_f2, own_g_f2_26, own_g_f2_38, own_g_f2_52, own_g_f2_66, own_g_f2_80, own_g_f2_94, own_g_f2_108, own_g_f2_122, own_g_f2_136, own_g_f2_150, own_g_f2_163, own_g_f2_175, own_g_f2_187]
  constructor
  · intro h1 h2
    rcases h1 with h1 | h1 | h1 | h1 | h1 | h1 | h1 | h1 | h1 | h1 | h1 | h1 | h1 | h1 | h1 | h1 | h1
    · omega
    · omega
    · omega
    · omega
    · omega
    · omega
    · omega
    · omega
    · omega
    · omega
    · omega
    · omega
    · omega
    · omega
    · omega
    · omega
    · exact own_z203 c h1
  · intro h1
    false_or_by_contra
    rename_i h2
    simp only [not_or] at h1 h2
    obtain ⟨A0, A1, A2, A3, A4, A5, A6, A7, A8, A9, A10, A11, A12, A13, A14, A15, A16⟩ := h1
    obtain ⟨B0, B1, B2, B3, B4, B5, B6, B7, B8, B9, B10, B11, B12, B13, B14, B15, -⟩ := h2
    have s0 : (58 : Int) ≤ c.toInt := Int.not_lt.mp A0
    have s1 : (59 : Int) ≤ c.toInt := own_step s0 B0
    have s2 : (65 : Int) ≤ c.toInt := own_step s1 A1
    have s3 : (91 : Int) ≤ c.toInt := own_step s2 B2
    have s4 : (95 : Int) ≤ c.toInt := own_step s3 A2
    have s5 : (96 : Int) ≤ c.toInt := own_step s4 B1
    have s6 : (97 : Int) ≤ c.toInt := own_step s5 A3
    have s7 : (123 : Int) ≤ c.toInt := own_step s6 B3
    have s8 : (192 : Int) ≤ c.toInt := own_step s7 A4
    have s9 : (215 : Int) ≤ c.toInt := own_step s8 B4
    have s10 : (216 : Int) ≤ c.toInt := own_step s9 A5
    have s11 : (247 : Int) ≤ c.toInt := own_step s10 B5
    have s12 : (248 : Int) ≤ c.toInt := own_step s11 A6
    have s13 : (768 : Int) ≤ c.toInt := own_step s12 B6
    have s14 : (880 : Int) ≤ c.toInt := own_step s13 A7
    have s15 : (894 : Int) ≤ c.toInt := own_step s14 B7
    have s16 : (895 : Int) ≤ c.toInt := own_step s15 A8
    have s17 : (8192 : Int) ≤ c.toInt := own_step s16 B8
    have s18 : (8204 : Int) ≤ c.toInt := own_step s17 A9
    have s19 : (8206 : Int) ≤ c.toInt := own_step s18 B9
    have s20 : (8304 : Int) ≤ c.toInt := own_step s19 A10
    have s21 : (8592 : Int) ≤ c.toInt := own_step s20 B10
    have s22 : (11264 : Int) ≤ c.toInt := own_step s21 A11
    have s23 : (12272 : Int) ≤ c.toInt := own_step s22 B11
    have s24 : (12289 : Int) ≤ c.toInt := own_step s23 A12
    have s25 : (55296 : Int) ≤ c.toInt := own_step s24 B12
    have s26 : (63744 : Int) ≤ c.toInt := own_step s25 A13
    have s27 : (64976 : Int) ≤ c.toInt := own_step s26 B13
    have s28 : (65008 : Int) ≤ c.toInt := own_step s27 A14
    have s29 : (65534 : Int) ≤ c.toInt := own_step s28 B14
    have s30 : (65536 : Int) ≤ c.toInt := own_step s29 A15
    have s31 : (983040 : Int) ≤ c.toInt := own_step s30 B15
    exact A16 s31
def Q0 (n0 : Nat) (v : Option Value) (h : Heap) (L : List Loc) : Prop := v = some (.int (1 : Int32)) ∧ Fr n0 L
theorem ef_0 (m : MethodId) (x0 : Int32) : entryFrame m #[(.int x0)] maxLocals = mkF m 0 #[.val (.int x0), .unset] [] := by first | (simp [entryFrame, mkF, argsToLocals, Value.category, maxLocals]; done) | rfl
set_option maxRecDepth 65536 in
set_option maxHeartbeats 40000000 in
theorem rm0 (l : Launch) (Z : State) (a0 : Array Value) (hw : ∀ d ∈ tables_1, d.before a0 Z = true) (ws : List Jvm.Cond) (p1 : Int32) (h0 : Heap) (n0 : Nat) (Z0 : n0 ≤ h0.size) :
    MetFree l x (head1 (Jvm.Cond.code x code maxLocals ret :: ws) room_1) (fun a U => a = #[(.int p1)] ∧ Z.Warmed39 U.vm ∧ U.heap = h0) (fun _ _ _ _ _ => True) (fun _ U o U' => ∃ v L, o = .returned v ∧ Q0 n0 v U'.heap L ∧ FrameEnd U o U' L room_1.cells room_1.slots) := by
  refine MetFree.of_bodySF (plainFor_of_name pn_0) hisR ?_
  intro p e s m args below meth c s₁ Bd hml0 hP hK
  obtain ⟨rfl, hZ, hh⟩ := hP
  have hx := Bd.exec
  have hby := Bd.bytes
  have hml : c.maxLocals = 2 := hml0
  have hown : s.vm.findClass "com/example/nodearc/nodearc/datatype/XmlNamesIsNameStartCharPinLaw" = some m.cls := findClass_of_methodNamed Bd.named
  have hnm := (name_of_methodNamed Bd.named Bd.method).1
  have X0 : Stand p l e room_1 s m #[(.int p1)] below meth c s₁ [] 0 0 := Stand.of_body Bd
  have e0 : s₁.heap = h0 := by rw [← hh, Bd.state]; rfl
  have N0 := Fr.nil n0
  have pre0 : ∀ t, Steps p.tables e below (s₁.setTop (mkF m 0 #[.val (.int p1), .unset] [])) t → Steps p.tables e below (s₁.setTop (entryFrame m #[(.int p1)] maxLocals)) t := fun t k => castTop (ef_0 m p1) k
  have pre1 : ∀ t, Steps p.tables e below (s₁.setTop (mkF m 1 #[.val (.int p1), .unset] [(.int p1)])) t → Steps p.tables e below (s₁.setTop (entryFrame m #[(.int p1)] maxLocals)) t := by
    intro t kt
    refine pre0 t ?_
    show Steps p.tables e below (s₁.setTop (mkF m 0 #[.val (.int p1), .unset] [])) _
    refine XS.iloadN X0.here hx rfl (hb hby at_0) rfl ?_
    exact kt
  obtain ⟨_, _, ⟨T2, L2, k2, n2⟩, -, X2, ⟨Lc2, hQ2, l2, y2, z2⟩, st2⟩ := Jvm.LawKit.callS X0 hx (y := (⟨"com/example/nodearc/nodearc/datatype/XmlNamesIsNameStartCharPinLaw", "inGap", "(I)Z"⟩ : MethodName)) hown (mvT hZ (hw _ (List.mem_of_getElem? (i := 0) rfl))) (mvT hZ (hw _ (List.mem_of_getElem? (i := 1) rfl))) (mvT hZ (hw _ (List.mem_of_getElem? (i := 2) rfl))) (mvT hZ (hw _ (List.mem_of_getElem? (i := 3) rfl))) (by decide) (backOf (W := 0) (rm1 l Z a0 hw [] p1 h0 n0) hZ (hw _ (List.mem_of_getElem? (i := 3) rfl)) (hw _ (List.mem_of_getElem? (i := 2) rfl)) (by decide) (by decide)) (g := (mkF m 1 #[.val (.int p1), .unset] [(.int p1)])) rfl (by rw [hml]; rfl) (argsL := [(.int p1)]) (rest := []) (lenOf pd_0 rfl) rfl (by show 2 * 0 + _ ≤ _; exact Nat.le_of_eq rfl) (hb hby at_1) (fun _ _ => ⟨rfl, e0, (by decide : 0 + 0 ≤ _), (by decide : 0 + 0 ≤ _)⟩)
  dsimp only [Pt.U, Pt.locs, Pt.cells, Pt.slots] at X2 l2 y2 z2 st2 hQ2
  subst l2 y2 z2
  obtain ⟨rfl, N2q, e2⟩ := hQ2
  have N2 := Fr.app N0 N2q
  have pre2 : ∀ t, Steps p.tables e below (T2.setTop (mkF m 4 #[.val (.int p1), .unset] [(.int (own_f1 p1))])) t → Steps p.tables e below (s₁.setTop (entryFrame m #[(.int p1)] maxLocals)) t := fun t kt => pre1 t (st2 _ kt)
  obtain ⟨v3_0, hv3_0, pre3⟩ : ∃ (v3_0 : Int32), v3_0 = (if (own_f1 p1) = (0 : Int32) then (1 : Int32) else (0 : Int32)) ∧ ∀ t, Steps p.tables e below (T2.setTop (mkF m 12 #[.val (.int p1), .unset] [(.int v3_0)])) t → Steps p.tables e below (s₁.setTop (entryFrame m #[(.int p1)] maxLocals)) t := by
    refine ⟨_, rfl, ?_⟩
    intro t kt
    refine pre2 t ?_
    show Steps p.tables e below (T2.setTop (mkF m 4 #[.val (.int p1), .unset] [(.int (own_f1 p1))])) _
    by_cases hc4 : (own_f1 p1) = (0 : Int32)
    · (try simp only [if_pos hc4] at kt)
      refine XS.ifNo X2.here hx rfl (hb hby at_4) rfl ((if0 _ _).trans (teq hc4).2) ?_
      show Steps p.tables e below (T2.setTop (mkF m 7 #[.val (.int p1), .unset] [])) _
      refine XS.iconst X2.here hx rfl (hb hby at_7) ?_
      show Steps p.tables e below (T2.setTop (mkF m 8 #[.val (.int p1), .unset] [(.int (1 : Int32))])) _
      refine XS.goto X2.here hx rfl (pc0 := 8) (pc' := 12) rfl (hb hby at_8) (by decide) (by decide) ?_
      exact kt
    · (try simp only [if_neg hc4] at kt)
      refine XS.ifYes X2.here hx rfl (pc0 := 4) (pc' := 11) rfl (hb hby at_4) rfl ((if0 _ _).trans (feq hc4).2) (by decide) (by decide) ?_
      show Steps p.tables e below (T2.setTop (mkF m 11 #[.val (.int p1), .unset] [])) _
      refine XS.iconst X2.here hx rfl (hb hby at_11) ?_
      exact kt
  have pre4 : ∀ t, Steps p.tables e below (T2.setTop (mkF m 14 #[.val (.int p1), .val (.int v3_0)] [(.int p1)])) t → Steps p.tables e below (s₁.setTop (entryFrame m #[(.int p1)] maxLocals)) t := by
    intro t kt
    refine pre3 t ?_
    show Steps p.tables e below (T2.setTop (mkF m 12 #[.val (.int p1), .unset] [(.int v3_0)])) _
    refine XS.istoreN X2.here hx rfl (hb hby at_12) rfl (l' := #[.val (.int p1), .val (.int v3_0)]) rfl ?_
    show Steps p.tables e below (T2.setTop (mkF m 13 #[.val (.int p1), .val (.int v3_0)] [])) _
    refine XS.iloadN X2.here hx rfl (hb hby at_13) rfl ?_
    exact kt
  obtain ⟨_, _, ⟨T5, L5, k5, n5⟩, -, X5, ⟨Lc5, hQ5, l5, y5, z5⟩, st5⟩ := Jvm.LawKit.callS X2 hx (y := (⟨"com/example/nodearc/nodearc/datatype/XmlNames", "isNameStartChar", "(I)Z"⟩ : MethodName)) hown (mvT hZ (hw _ (List.mem_of_getElem? (i := 4) rfl))) (mvT hZ (hw _ (List.mem_of_getElem? (i := 5) rfl))) (mvT hZ (hw _ (List.mem_of_getElem? (i := 6) rfl))) (mvT hZ (hw _ (List.mem_of_getElem? (i := 7) rfl))) (by decide) (backOf (W := 0) (rm2 l Z a0 hw [] p1 h0 n0) hZ (hw _ (List.mem_of_getElem? (i := 7) rfl)) (hw _ (List.mem_of_getElem? (i := 6) rfl)) (by decide) (by decide)) (g := (mkF m 14 #[.val (.int p1), .val (.int v3_0)] [(.int p1)])) rfl (by rw [hml]; rfl) (argsL := [(.int p1)]) (rest := []) (lenOf pd_0 rfl) rfl (by show 2 * 0 + _ ≤ _; exact Nat.le_of_eq rfl) (hb hby at_14) (fun _ _ => ⟨rfl, e2, (by decide : 0 + 0 ≤ _), (by decide : 0 + 0 ≤ _)⟩)
  dsimp only [Pt.U, Pt.locs, Pt.cells, Pt.slots] at X5 l5 y5 z5 st5 hQ5
  subst l5 y5 z5
  obtain ⟨rfl, N5q, e5⟩ := hQ5
  have N5 := Fr.app N2 N5q
  have pre5 : ∀ t, Steps p.tables e below (T5.setTop (mkF m 17 #[.val (.int p1), .val (.int v3_0)] [(.int (own_f2 p1))])) t → Steps p.tables e below (s₁.setTop (entryFrame m #[(.int p1)] maxLocals)) t := fun t kt => pre4 t (st5 _ kt)
  have pre6 : ∀ t, Steps p.tables e below (T5.setTop (mkF m 18 #[.val (.int p1), .val (.int v3_0)] [(.int v3_0), (.int (own_f2 p1))])) t → Steps p.tables e below (s₁.setTop (entryFrame m #[(.int p1)] maxLocals)) t := by
    intro t kt
    refine pre5 t ?_
    show Steps p.tables e below (T5.setTop (mkF m 17 #[.val (.int p1), .val (.int v3_0)] [(.int (own_f2 p1))])) _
    refine XS.iloadN X5.here hx rfl (hb hby at_17) rfl ?_
    exact kt
  obtain ⟨v7_0, hv7_0, pre7⟩ : ∃ (v7_0 : Int32), v7_0 = (if (own_f2 p1) = v3_0 then (1 : Int32) else (0 : Int32)) ∧ ∀ t, Steps p.tables e below (T5.setTop (mkF m 26 #[.val (.int p1), .val (.int v3_0)] [(.int v7_0)])) t → Steps p.tables e below (s₁.setTop (entryFrame m #[(.int p1)] maxLocals)) t := by
    refine ⟨_, rfl, ?_⟩
    intro t kt
    refine pre6 t ?_
    show Steps p.tables e below (T5.setTop (mkF m 18 #[.val (.int p1), .val (.int v3_0)] [(.int v3_0), (.int (own_f2 p1))])) _
    by_cases hc18 : (own_f2 p1) = v3_0
    · (try simp only [if_pos hc18] at kt)
      refine XS.icmpNo X5.here hx rfl (hb hby at_18) rfl (teq hc18).2 ?_
      show Steps p.tables e below (T5.setTop (mkF m 21 #[.val (.int p1), .val (.int v3_0)] [])) _
      refine XS.iconst X5.here hx rfl (hb hby at_21) ?_
      show Steps p.tables e below (T5.setTop (mkF m 22 #[.val (.int p1), .val (.int v3_0)] [(.int (1 : Int32))])) _
      refine XS.goto X5.here hx rfl (pc0 := 22) (pc' := 26) rfl (hb hby at_22) (by decide) (by decide) ?_
      exact kt
    · (try simp only [if_neg hc18] at kt)
      refine XS.icmpYes X5.here hx rfl (pc0 := 18) (pc' := 25) rfl (hb hby at_18) rfl (feq hc18).2 (by decide) (by decide) ?_
      show Steps p.tables e below (T5.setTop (mkF m 25 #[.val (.int p1), .val (.int v3_0)] [])) _
      refine XS.iconst X5.here hx rfl (hb hby at_25) ?_
      exact kt
  have hfin : v7_0 = 1 := by
    rw [hv7_0, hv3_0]
    rcases own_b_f1 p1 with h | h
    · have q := (own_all p1).mpr (by rw [h]; decide)
      simp [h, q]
    · have q := fun z => (own_all p1).mp z h
      rcases own_b_f2 p1 with h2 | h2
      · simp [h, h2]
      · exact absurd h2 q
  obtain ⟨fs, hr, hrun, hended, hW, hsame⟩ := X5.leave (v := some (.int (1 : Int32))) (fun h => by rw [Bd.returns] at h; cases h)
  refine ⟨_, _, pre7 _ ?_, hrun, hended, _, _, rfl, ?_, ⟨_, rfl⟩, hW, hsame.mono (by decide) (by decide)⟩
  · show Steps p.tables e below (T5.setTop (mkF m 26 #[.val (.int p1), .val (.int v3_0)] [(.int v7_0)])) _
    rw [hfin]
    exact retN X5 hx (t := .boolean) Bd.returns (by simp) (hb hby at_26) hr
  · show Q0 n0 _ T5.heap _
    rw [e5]
    exact ⟨rfl, N5⟩
set_option maxRecDepth 65536 in
set_option maxHeartbeats 40000000 in
theorem comes_1 {Post : Tables → Env → Array Value → State → Outcome → State → Prop} (hpost : ∀ tb e args s v u, (limb_1_1.after args s (.returned v) u = true ∧ limb_1_2.after args s (.returned v) u = true ∧ True) → FrameEnd s (.returned v) u (Jvm.fieldLocs frame_1_writes args s ++ Jvm.arrayLocs frame_1_arrays args s ++ Jvm.staticLocs frame_1_statics s) 0 0 → Post tb e args s (.returned v) u) :
    ArmFor flags0 classFile x code maxLocals ret World_1 tables_1 room_1 Calls_1 rest_1 Pre_1 Post := by
  intro l hfl _ _ p e ha hc hk s m args below hf hA hF happ hP
  obtain ⟨hcalls, hrest, hpre⟩ := hP
  obtain ⟨-, -, -, hnamed, -, -, -, hat⟩ := (Spec.applies_iff hf).mp happ
  obtain ⟨hg, hn⟩ := and_e (Cond.before_iff.mp (show (Jvm.Cond.and given_1 narrow_1).before args s = true from hpre))
  obtain ⟨g1, g2⟩ := and_e hg
  obtain ⟨w0, rfl⟩ : ∃ w0 : Value, args = #[w0] := by
    have hs : args.size = 1 := by simpa [Cond.value, given_1] using g1
    obtain ⟨L⟩ := args
    match L, hs with
    | [w0], _ => exact ⟨w0, rfl⟩
  have hw := fun d (hd : d ∈ tables_1) => atoms_spec (ws := Jvm.Cond.code x code maxLocals ret :: tables_1) hat d (List.mem_cons_of_mem _ hd)
  have hfit : Fit s := fun {y c} hc i hi => by
    obtain ⟨ha, rfl⟩ := Array.getElem?_eq_some_iff.mp hc
    have q := List.all_eq_true.mp ((Array.all_eq_true_iff_forall_mem.mp hF) _ (Array.getElem_mem ha)) i (List.mem_range.mpr hi)
    simpa [Array.getElem?_eq_getElem hi] using q
  obtain ⟨i0, ei0⟩ := is_v g2
  obtain rfl : w0 = (.int i0) := Option.some.inj ei0
  obtain ⟨n, o, h1, h2, h3, _, L, rfl, ⟨rfl, N⟩, hq⟩ := rm0 l s _ hw tables_1 i0  s.heap s.heap.size (Nat.le_refl _)  p e ha hc hk s m _ below hf ((Spec.applies_iff_loose hf).mp happ).1 ⟨rfl, State.Warmed39.refl s, rfl⟩ trivial
  refine ⟨n, _, h1, h2, h3, hpost _ _ _ _ _ _ ⟨Cond.after_iff.mpr rfl, Cond.after_iff.mpr (eq_i res_at (Term.int_eval (1)) rfl), trivial⟩ ⟨hq.1, hq.2.1, (hq.2.2.sift fun y hy => Or.inr (N y hy)).mono (by decide) (by decide)⟩⟩
theorem main_1_1 : Claimed_1_1 := comes_1 fun _ _ _ _ _ _ h hF => ⟨h.1, hF⟩
theorem main_1_2 : Claimed_1_2 := comes_1 fun _ _ _ _ _ _ h hF => ⟨h.2.1, hF⟩
end Jvm.Pilot.@@N@@
namespace Jvm.Pilot.@@N@@
open Jvm Jvm.ClassFile Sem Op Lib Jvm.Free Jvm.Stand Jvm.Pilot.@@N@@.Jvm.D
/-! MADE BY PROGRAM (witnessworld.py) out of the Statement's table words and the real class files: 9 classes; the members and pool entries that the words name. The judged class is class 1, her method 2. -/
namespace start1
open Jvm.ClassFile
def u (s : String) : CpInfo := .utf8 (stringToUtf16 s)
/-- a pool by its gaps: so many unusable entries, then the entry; so many at the end -/
def gap : Nat → List CpInfo → List CpInfo
  | 0, r => r
  | n + 1, r => .unusable :: gap n r
def poolList (es : List (Nat × CpInfo)) (last : Nat) : List CpInfo := es.foldr (fun e r => gap e.1 (e.2 :: r)) (gap last [])
def pool (es : List (Nat × CpInfo)) (last : Nat) : Array CpInfo := ⟨poolList es last⟩
def fileOf (pool : Array CpInfo) (this : Nat) (attrs : Array Attribute := #[]) (ms : Array MethodInfo := #[]) (fl : Nat := 33) (sup : Nat := 0) (ifs : Array Nat := #[]) (fds : Array FieldInfo := #[]) : ClassFile where
  minorVersion := 0
  majorVersion := 65
  constantPool := pool
  accessFlags := fl
  thisClass := this
  superClass := sup
  interfaces := ifs
  fields := fds
  methods := ms
  attributes := attrs
def plain (name : String) (sup : Option ClassId) : Class where
  name := name
  kind := .ordinary
  loader := none
  accessFlags := 33
  super := sup
  interfaces := #[]
  cf := none
  fields := #[]
  methods := #[]
  instanceTypes := #[]
  staticTypes := #[]
  resolved := #[]
  callSites := []
  init := .initialized
  statics := none
  mirror := none

def pool0 : Array CpInfo := pool [(5, u "<init>"), (0, u "()V"), (1, .class_ 10), (1, u "java/lang/Object")] 113

def k0m0 : Method := { name := "<init>", desc := "()V", sig := { parameters := [], returnType := none }, accessFlags := 1, code := none }
/-- java/lang/Object -/
def k0 : Class := { plain "java/lang/Object" none with
  accessFlags := 33
  interfaces := #[]
  cf := some (fileOf pool0 8 #[] #[{ accessFlags := 1, nameIndex := 5, descriptorIndex := 6, attributes := #[] }] 33 0 #[] #[])
  fields := #[]
  methods := #[k0m0]
  instanceTypes := #[]
  staticTypes := #[]
  resolved := Array.replicate 124 none
  statics := none }

def pool1 : Array CpInfo := pool [(2, .class_ 4), (1, u "java/lang/Object"), (0, u "<init>"), (0, u "()V"), (0, .integer 55296), (0, .integer 63743), (0, .integer 64976), (0, .integer 65007), (0, .integer 65534), (0, .integer 65535), (0, .integer 983040), (0, .methodref 15 16), (0, .class_ 17), (0, .nameAndType 18 19), (0, u "com/example/nodearc/nodearc/datatype/XmlNamesIsNameStartCharPinLaw"), (0, u "inGap"), (0, u "(I)Z"), (0, .methodref 21 22), (0, .class_ 23), (0, .nameAndType 24 19), (0, u "com/example/nodearc/nodearc/datatype/XmlNames"), (0, u "isNameStartChar"), (3, u "law")] 2

def k1m0 : Method := { name := "<init>", desc := "()V", sig := { parameters := [], returnType := none }, accessFlags := 2, code := none }
def k1c1 : Code := { maxStack := 2, maxLocals := 1, code := method_2_code, exceptionTable := #[], attributes := #[] }
def k1m1 : Method := { name := "inGap", desc := "(I)Z", sig := { parameters := [.int], returnType := some .boolean }, accessFlags := 10, code := some k1c1 }
def k1c2 : Code := { maxStack := 2, maxLocals := 2, code := code, exceptionTable := #[], attributes := #[] }
def k1m2 : Method := { name := "law", desc := "(I)Z", sig := { parameters := [.int], returnType := some .boolean }, accessFlags := 9, code := some k1c2 }
/-- com/example/nodearc/nodearc/datatype/XmlNamesIsNameStartCharPinLaw -/
def k1 : Class := { plain "com/example/nodearc/nodearc/datatype/XmlNamesIsNameStartCharPinLaw" (some 0) with
  accessFlags := 49
  interfaces := #[]
  cf := some (fileOf pool1 15 #[] #[{ accessFlags := 2, nameIndex := 5, descriptorIndex := 6, attributes := #[] }, { accessFlags := 10, nameIndex := 18, descriptorIndex := 19, attributes := #[] }, { accessFlags := 9, nameIndex := 28, descriptorIndex := 19, attributes := #[] }] 49 2 #[] #[])
  fields := #[]
  methods := #[k1m0, k1m1, k1m2]
  instanceTypes := #[]
  staticTypes := #[]
  resolved := Array.replicate 31 none
  statics := none }

def pool2 : Array CpInfo := pool [(2, .class_ 4), (1, u "java/lang/Object"), (0, u "<init>"), (0, u "()V"), (0, .integer 55295), (0, .integer 63744), (0, .integer 64975), (0, .integer 65008), (0, .integer 65533), (0, .integer 65536), (0, .integer 983039), (1, .class_ 17), (1, u "com/example/nodearc/nodearc/datatype/XmlNames"), (0, u "isNameStartChar"), (0, u "(I)Z")] 6

def k2m0 : Method := { name := "<init>", desc := "()V", sig := { parameters := [], returnType := none }, accessFlags := 2, code := none }
def k2c1 : Code := { maxStack := 2, maxLocals := 2, code := prog_72_method_2_code, exceptionTable := #[], attributes := #[] }
def k2m1 : Method := { name := "isNameStartChar", desc := "(I)Z", sig := { parameters := [.int], returnType := some .boolean }, accessFlags := 9, code := some k2c1 }
/-- com/example/nodearc/nodearc/datatype/XmlNames -/
def k2 : Class := { plain "com/example/nodearc/nodearc/datatype/XmlNames" (some 0) with
  accessFlags := 49
  interfaces := #[]
  cf := some (fileOf pool2 15 #[] #[{ accessFlags := 2, nameIndex := 5, descriptorIndex := 6, attributes := #[] }, { accessFlags := 9, nameIndex := 18, descriptorIndex := 19, attributes := #[] }] 49 2 #[] #[])
  fields := #[]
  methods := #[k2m0, k2m1]
  instanceTypes := #[]
  staticTypes := #[]
  resolved := Array.replicate 26 none
  statics := none }

def pool3 : Array CpInfo := pool [(1, u "java/lang/Cloneable"), (0, .class_ 1), (0, u "java/lang/Object"), (0, .class_ 3)] 3

/-- java/lang/Cloneable -/
def k3 : Class := { plain "java/lang/Cloneable" (some 0) with
  accessFlags := 1537
  interfaces := #[]
  cf := some (fileOf pool3 2 #[] #[] 1537 4 #[] #[])
  fields := #[]
  methods := #[]
  instanceTypes := #[]
  staticTypes := #[]
  resolved := Array.replicate 8 none
  statics := none }

def pool4 : Array CpInfo := pool [(1, u "java/io/Serializable"), (0, .class_ 1), (0, u "java/lang/Object"), (0, .class_ 3)] 3

/-- java/io/Serializable -/
def k4 : Class := { plain "java/io/Serializable" (some 0) with
  accessFlags := 1537
  interfaces := #[]
  cf := some (fileOf pool4 2 #[] #[] 1537 4 #[] #[])
  fields := #[]
  methods := #[]
  instanceTypes := #[]
  staticTypes := #[]
  resolved := Array.replicate 8 none
  statics := none }

/-- the primitive byte -/
def k5 : Class := { plain "byte" none with kind := .primitive 'B', accessFlags := 0x411 }
/-- [B -/
def k6 : Class := { plain "[B" (some 0) with kind := .array 5 .byte, interfaces := #[3, 4], accessFlags := 1041 }

/-- the primitive int -/
def k7 : Class := { plain "int" none with kind := .primitive 'I', accessFlags := 0x411 }
/-- [I -/
def k8 : Class := { plain "[I" (some 0) with kind := .array 7 .int, interfaces := #[3, 4], accessFlags := 1041 }

def heap : Heap := #[]
def classes : Array Class := #[k0, k1, k2, k3, k4, k5, k6, k7, k8]
def interned : List (Array UInt16 × Addr) := []
def slotsUsed : Nat := 0
def theMethod : MethodId := ⟨1, 2⟩
def args0 : Array Value := #[.int 5]
def aboutOver (below : List Frame) : State where
  vm := { classes := classes, interned := interned.toArray }
  heap := heap
  slotsUsed := slotsUsed
  threads := #[{ frames := .invoking theMethod args0 :: below }]
def below0 : List Frame := [.native { method := ⟨0, 0⟩, args := #[] }]
def about1 : State := aboutOver below0
def p0 : Program := .bare "" "" ""
def e0 : Env := launch0.env 0 0 0
theorem w_frames : about1.frames = Frame.invoking theMethod args0 :: below0 := rfl
set_option maxRecDepth 65536 in
theorem w_args : argsFit about1.vm theMethod args0 = true := by decide +kernel
set_option maxRecDepth 65536 in
theorem w_heap : heapFits about1 = true := by decide +kernel
set_option maxRecDepth 65536 in
theorem w_runnable : about1.curStatus? = some .runnable := by decide +kernel
set_option maxRecDepth 65536 in
theorem w_alone : about1.alone = true := by decide +kernel
set_option maxRecDepth 65536 in
theorem w_named : about1.methodNamed? x = some theMethod := by decide +kernel
set_option maxRecDepth 65536 in
theorem w_hears : about1.hears theMethod below0 = true := by decide +kernel
set_option maxRecDepth 65536 in
theorem w_ripe : about1.ripe theMethod args0 below0 = true := by decide +kernel
theorem w_running : about1.status = .running := rfl
set_option maxRecDepth 65536 in
theorem w_room : about1.hasRoom e0.platform room_1 = true :=
  launch0.hasRoom_least _ room_1 (by decide +kernel) (by decide +kernel) (by decide +kernel) (by decide +kernel) (by decide +kernel) (by decide +kernel)
theorem allAtoms_all (ts : List Jvm.Cond) (a : Array Jvm.Value) (st : Jvm.State) : (allAtoms ts).before a st = ts.all (fun c => c.before a st) := by
  induction ts with
  | nil => rfl
  | cons c t ih =>
    show (Jvm.Cond.and c (allAtoms t)).before a st = _
    rw [Jvm.Cond.before_and, ih, List.all_cons]
def words1 : List Jvm.Cond := Jvm.Cond.code x code maxLocals ret :: tables_1
/-- a 'code' word, met by the world's own term for the bytes: nothing is compared byte by byte -/
theorem code_word {y : MethodName} {bytes : ByteArray} {mx : Nat} {rt : Option FieldType} {a : Array Value} {s : State} {m : MethodId} {meth : Method} {c : Code} (h1 : s.methodNamed? y = some m) (h2 : s.vm.method? m = some meth) (h3 : meth.code = some c) (h4 : c.code = bytes)
    (h5 : (c.maxLocals == mx && c.exceptionTable.isEmpty && decide (c.maxStack ≤ mostOperands) && decide (meth.sig.returnType = rt) && !meth.locks && decide (parseMethodDescriptor y.desc = some meth.sig)) = true) : (Jvm.Cond.code y bytes mx rt).before a s = true := by
  simp only [Bool.and_eq_true, beq_iff_eq, Bool.not_eq_true', decide_eq_true_eq] at h5
  obtain ⟨⟨⟨⟨⟨g1, g2⟩, g3⟩, g4⟩, g5⟩, g6⟩ := h5
  simp [Cond.before, Cond.holds, Cond.value, h1, h2, h3, h4, g1, g2, g3, g4, g5, g6]
def isCode : Jvm.Cond → Bool
  | .code _ _ _ _ => true
  | _ => false
theorem all_split {L : List Jvm.Cond} {P : Jvm.Cond → Bool} (h1 : L.all (fun c => isCode c || P c) = true) (h2 : ∀ c ∈ L.filter isCode, P c = true) : L.all P = true := by
  refine List.all_eq_true.mpr fun c hc => ?_
  have h := List.all_eq_true.mp h1 c hc
  rcases Bool.eq_false_or_eq_true (isCode c) with hi | hi
  · exact h2 c (List.mem_filter.mpr ⟨hc, hi⟩)
  · simpa [hi] using h
set_option maxRecDepth 65536 in
theorem w_c0 : (Jvm.Cond.code x code maxLocals ret).before args0 about1 = true := code_word (m := ⟨1, 2⟩) (meth := k1m2) (c := k1c2) (by decide +kernel) rfl rfl rfl (by decide +kernel)
set_option maxRecDepth 65536 in
theorem w_c1 : (Jvm.Cond.code ({ cls := "com/example/nodearc/nodearc/datatype/XmlNamesIsNameStartCharPinLaw", name := "inGap", desc := "(I)Z" } : Jvm.MethodName) method_2_code (1 : Nat) (Option.some Jvm.ClassFile.FieldType.boolean)).before args0 about1 = true := code_word (m := ⟨1, 1⟩) (meth := k1m1) (c := k1c1) (by decide +kernel) rfl rfl rfl (by decide +kernel)
set_option maxRecDepth 65536 in
theorem w_c2 : (Jvm.Cond.code ({ cls := "com/example/nodearc/nodearc/datatype/XmlNames", name := "isNameStartChar", desc := "(I)Z" } : Jvm.MethodName) prog_72_method_2_code (2 : Nat) (Option.some Jvm.ClassFile.FieldType.boolean)).before args0 about1 = true := code_word (m := ⟨2, 1⟩) (meth := k2m1) (c := k2c1) (by decide +kernel) rfl rfl rfl (by decide +kernel)
def codes1 : List Jvm.Cond := [Jvm.Cond.code x code maxLocals ret, Jvm.Cond.code ({ cls := "com/example/nodearc/nodearc/datatype/XmlNamesIsNameStartCharPinLaw", name := "inGap", desc := "(I)Z" } : Jvm.MethodName) method_2_code (1 : Nat) (Option.some Jvm.ClassFile.FieldType.boolean), Jvm.Cond.code ({ cls := "com/example/nodearc/nodearc/datatype/XmlNames", name := "isNameStartChar", desc := "(I)Z" } : Jvm.MethodName) prog_72_method_2_code (2 : Nat) (Option.some Jvm.ClassFile.FieldType.boolean)]
set_option maxRecDepth 65536 in
theorem codes_eq : words1.filter isCode = codes1 := rfl
theorem w_codes : ∀ c ∈ words1.filter isCode, c.before args0 about1 = true := by
  rw [codes_eq]
  intro c hc
  simp only [codes1, List.mem_cons, List.not_mem_nil, or_false] at hc
  rcases hc with rfl | rfl | rfl
  · exact w_c0
  · exact w_c1
  · exact w_c2
set_option maxRecDepth 65536 in
theorem w_t1 : words1.all (fun c => isCode c || c.before args0 about1) = true := by decide +kernel
theorem w_tables : (allAtoms (Jvm.Cond.code x code maxLocals ret :: tables_1)).before args0 about1 = true := by
  rw [allAtoms_all]
  show words1.all (fun c => c.before args0 about1) = true
  refine all_split ?_ w_codes
  rw [w_t1]
set_option maxRecDepth 65536 in
theorem w_case : (Jvm.Cond.and given_1 narrow_1).before args0 about1 = true := by decide +kernel
theorem w_applies : (headSpec (Jvm.Cond.code x code maxLocals ret :: tables_1) room_1).applies x e0.platform about1 = true :=
  (Spec.applies_iff w_frames).mpr ⟨w_running, w_runnable, w_alone, w_named, w_hears, w_ripe, w_room, w_tables⟩
theorem atStart : AtStart classFile x code maxLocals ret World_1 tables_1 room_1 Calls_1 rest_1 Pre_1 launch0 p0 e0 about1 theMethod args0 below0 :=
  ⟨lists_1, trivial, launch0.admits_env _ _ _, launch0.least_env, fairChoices_fair.cas, fairChoices_fair.clock, w_frames, w_args, w_heap, w_applies, trivial, trivial, w_case⟩
end start1
theorem witness_1 : WitnessClaimed_1 := ⟨start1.p0, start1.e0, start1.about1, start1.theMethod, start1.args0, start1.below0, start1.atStart⟩
end Jvm.Pilot.@@N@@
