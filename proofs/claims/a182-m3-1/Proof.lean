import JvmDerived
import JvmDerived.Pilot.@@N@@Statement
import JvmDerived.Pilot.@@N@@Code
set_option linter.unusedVariables false
set_option linter.unusedSimpArgs false
@@BLOCK:NumsL.lean.txt@@
namespace Jvm.RoadKit
open Sem ClassFile Op Lib Jvm.Stand Jvm.Free Jvm.LawKit
section New
variable {p : Program} {l : Launch} {e : Env} {R : Room} {s : State} {m : MethodId} {args : Array Value} {below : List Frame} {meth : Method} {c : Code} {T : State} {locs : List Loc} {cells slots : Nat}
theorem retI (X : Stand p l e R s m args below meth c T locs cells slots) (hx : p.tables.exec = Jvm.exec) {pc : Nat} {Ls : Array Slot} {z : Int32} {rest : List Value} (hret : meth.sig.returnType = some .int) (hd : decode c.code pc = .ok (.ireturn, 1)) {fs : List Frame}
    (hl : ∀ (f : JFrame) (acts : List Action), f.method = m → f.locked = none → f.entered = [] → (doReturn e (T.setTop f) acts (some (.int z))).1 = T.setFrames fs) : Steps p.tables e below (T.setTop (mkF m pc Ls (.int z :: rest))) (T.setFrames fs) := by
  have hm' : T.vm.method? m = some meth := X.method'
  have hn : narrow .int (.int z) = .int z := rfl
  show Steps p.tables e below (T.setTop { method := m, pc := pc, locals := Ls, stack := _ :: rest, locked := none }) _
  jvm_step X.here [X.here.top, hx, hd, hm', hret, hn]
  first | (intro acts; rw [hl _ acts rfl rfl rfl]) | rw [hl _ _ rfl rfl rfl]
  exact Steps.refl _
end New
end Jvm.RoadKit
namespace Jvm.Pilot.@@N@@
open Jvm Jvm.ClassFile Sem Op Lib Jvm.Free Jvm.Stand Jvm.LawKit Jvm.RoadKit Bundle Jvm.Pilot.@@N@@.Jvm.D
theorem pn_0 : plainName "com/example/stierlin/stierlin/wire/ApiKeyIsFlexiblePinLaw" = true := by first | (simp [plainName, overriddenIn]; done) | decide +kernel
theorem pn_1 : plainName "com/example/stierlin/stierlin/wire/ApiKey" = true := by first | (simp [plainName, overriddenIn]; done) | decide +kernel
theorem pd_0 : parseMethodDescriptor "(I)Lcom/example/stierlin/stierlin/wire/ApiKey;" = some ⟨[.int], some (.object "com/example/stierlin/stierlin/wire/ApiKey")⟩ := by decide +kernel
theorem pd_1 : parseMethodDescriptor "(I)I" = some ⟨[.int], some .int⟩ := by decide +kernel
theorem pd_2 : parseMethodDescriptor "(S)Z" = some ⟨[.short], some .boolean⟩ := by decide +kernel
theorem own_eqInt {args : Array Value} {s : State} {t : Term} {k : Int32} (h : (Jvm.Cond.eq t (Term.int k)).value args s none s [] = some true) : t.eval args s none [] s = some (.int k) := by
  obtain ⟨x, y, hx, hy, k1, k2⟩ := cmp_v (Or.inl h)
  have e1 : Term.eval args s none [] s (.int k) = some (.int k) := rfl
  obtain rfl : y = .int k := by
    have := hy.symm.trans e1; exact Option.some.inj this
  obtain ⟨z, rfl⟩ : ∃ z, x = .int z := k2
  rw [hx]
  simp [Cond.value, hx, e1] at h
  rw [h]
def own_idx (k : Int32) : Nat := (if k = 0 then 0 else (if k = 1 then 1 else (if k = 2 then 2 else (if k = 3 then 3 else (if k = 4 then 4 else (if k = 5 then 5 else (if k = 6 then 6 else (if k = 7 then 7 else (if k = 8 then 8 else (if k = 9 then 9 else (if k = 10 then 10 else (if k = 11 then 11 else (if k = 12 then 12 else (if k = 13 then 13 else (if k = 14 then 14 else (if k = 15 then 15 else (if k = 16 then 16 else (if k = 17 then 17 else (if k = 18 then 18 else (if k = 19 then 19 else (if k = 20 then 20 else (if k = 21 then 21 else (if k = 22 then 22 else (if k = 23 then 23 else 24))))))))))))))))))))))))
def own_vals : List Int32 := [9, 12, 6, 9, 8, 6, 3, 6, 4, 4, 4, 5, 3, 3, 5, 4, 2, 4, 2, 2, 2, 1, 32767, 32767, 32767]
def own_val (i : Nat) : Int32 := own_vals.getD i 0

theorem d2_0 : decode method_4_code 0 = .ok (.iload_n 0, 1) := by decide +kernel
theorem d2_1 : decode method_4_code 1 = .ok (.ifCond .ne 6, 3) := by decide +kernel
theorem d2_4 : decode method_4_code 4 = .ok (.bipush 9, 2) := by decide +kernel
theorem d2_6 : decode method_4_code 6 = .ok (.ireturn, 1) := by decide +kernel
theorem d2_7 : decode method_4_code 7 = .ok (.iload_n 0, 1) := by decide +kernel
theorem d2_8 : decode method_4_code 8 = .ok (.iconst 1, 1) := by decide +kernel
theorem d2_9 : decode method_4_code 9 = .ok (.if_icmp .ne 6, 3) := by decide +kernel
theorem d2_12 : decode method_4_code 12 = .ok (.bipush 12, 2) := by decide +kernel
theorem d2_14 : decode method_4_code 14 = .ok (.ireturn, 1) := by decide +kernel
theorem d2_15 : decode method_4_code 15 = .ok (.iload_n 0, 1) := by decide +kernel
theorem d2_16 : decode method_4_code 16 = .ok (.iconst 2, 1) := by decide +kernel
theorem d2_17 : decode method_4_code 17 = .ok (.if_icmp .ne 6, 3) := by decide +kernel
theorem d2_20 : decode method_4_code 20 = .ok (.bipush 6, 2) := by decide +kernel
theorem d2_22 : decode method_4_code 22 = .ok (.ireturn, 1) := by decide +kernel
theorem d2_23 : decode method_4_code 23 = .ok (.iload_n 0, 1) := by decide +kernel
theorem d2_24 : decode method_4_code 24 = .ok (.iconst 3, 1) := by decide +kernel
theorem d2_25 : decode method_4_code 25 = .ok (.if_icmp .ne 6, 3) := by decide +kernel
theorem d2_28 : decode method_4_code 28 = .ok (.bipush 9, 2) := by decide +kernel
theorem d2_30 : decode method_4_code 30 = .ok (.ireturn, 1) := by decide +kernel
theorem d2_31 : decode method_4_code 31 = .ok (.iload_n 0, 1) := by decide +kernel
theorem d2_32 : decode method_4_code 32 = .ok (.iconst 4, 1) := by decide +kernel
theorem d2_33 : decode method_4_code 33 = .ok (.if_icmp .ne 6, 3) := by decide +kernel
theorem d2_36 : decode method_4_code 36 = .ok (.bipush 8, 2) := by decide +kernel
theorem d2_38 : decode method_4_code 38 = .ok (.ireturn, 1) := by decide +kernel
theorem d2_39 : decode method_4_code 39 = .ok (.iload_n 0, 1) := by decide +kernel
theorem d2_40 : decode method_4_code 40 = .ok (.iconst 5, 1) := by decide +kernel
theorem d2_41 : decode method_4_code 41 = .ok (.if_icmp .ne 6, 3) := by decide +kernel
theorem d2_44 : decode method_4_code 44 = .ok (.bipush 6, 2) := by decide +kernel
theorem d2_46 : decode method_4_code 46 = .ok (.ireturn, 1) := by decide +kernel
theorem d2_47 : decode method_4_code 47 = .ok (.iload_n 0, 1) := by decide +kernel
theorem d2_48 : decode method_4_code 48 = .ok (.bipush 6, 2) := by decide +kernel
theorem d2_50 : decode method_4_code 50 = .ok (.if_icmp .ne 5, 3) := by decide +kernel
theorem d2_53 : decode method_4_code 53 = .ok (.iconst 3, 1) := by decide +kernel
theorem d2_54 : decode method_4_code 54 = .ok (.ireturn, 1) := by decide +kernel
theorem d2_55 : decode method_4_code 55 = .ok (.iload_n 0, 1) := by decide +kernel
theorem d2_56 : decode method_4_code 56 = .ok (.bipush 7, 2) := by decide +kernel
theorem d2_58 : decode method_4_code 58 = .ok (.if_icmp .ne 6, 3) := by decide +kernel
theorem d2_61 : decode method_4_code 61 = .ok (.bipush 6, 2) := by decide +kernel
theorem d2_63 : decode method_4_code 63 = .ok (.ireturn, 1) := by decide +kernel
theorem d2_64 : decode method_4_code 64 = .ok (.iload_n 0, 1) := by decide +kernel
theorem d2_65 : decode method_4_code 65 = .ok (.bipush 8, 2) := by decide +kernel
theorem d2_67 : decode method_4_code 67 = .ok (.if_icmp .ne 5, 3) := by decide +kernel
theorem d2_70 : decode method_4_code 70 = .ok (.iconst 4, 1) := by decide +kernel
theorem d2_71 : decode method_4_code 71 = .ok (.ireturn, 1) := by decide +kernel
theorem d2_72 : decode method_4_code 72 = .ok (.iload_n 0, 1) := by decide +kernel
theorem d2_73 : decode method_4_code 73 = .ok (.bipush 9, 2) := by decide +kernel
theorem d2_75 : decode method_4_code 75 = .ok (.if_icmp .ne 5, 3) := by decide +kernel
theorem d2_78 : decode method_4_code 78 = .ok (.iconst 4, 1) := by decide +kernel
theorem d2_79 : decode method_4_code 79 = .ok (.ireturn, 1) := by decide +kernel
theorem d2_80 : decode method_4_code 80 = .ok (.iload_n 0, 1) := by decide +kernel
theorem d2_81 : decode method_4_code 81 = .ok (.bipush 10, 2) := by decide +kernel
theorem d2_83 : decode method_4_code 83 = .ok (.if_icmp .ne 5, 3) := by decide +kernel
theorem d2_86 : decode method_4_code 86 = .ok (.iconst 4, 1) := by decide +kernel
theorem d2_87 : decode method_4_code 87 = .ok (.ireturn, 1) := by decide +kernel
theorem d2_88 : decode method_4_code 88 = .ok (.iload_n 0, 1) := by decide +kernel
theorem d2_89 : decode method_4_code 89 = .ok (.bipush 11, 2) := by decide +kernel
theorem d2_91 : decode method_4_code 91 = .ok (.if_icmp .ne 5, 3) := by decide +kernel
theorem d2_94 : decode method_4_code 94 = .ok (.iconst 5, 1) := by decide +kernel
theorem d2_95 : decode method_4_code 95 = .ok (.ireturn, 1) := by decide +kernel
theorem d2_96 : decode method_4_code 96 = .ok (.iload_n 0, 1) := by decide +kernel
theorem d2_97 : decode method_4_code 97 = .ok (.bipush 12, 2) := by decide +kernel
theorem d2_99 : decode method_4_code 99 = .ok (.if_icmp .ne 5, 3) := by decide +kernel
theorem d2_102 : decode method_4_code 102 = .ok (.iconst 3, 1) := by decide +kernel
theorem d2_103 : decode method_4_code 103 = .ok (.ireturn, 1) := by decide +kernel
theorem d2_104 : decode method_4_code 104 = .ok (.iload_n 0, 1) := by decide +kernel
theorem d2_105 : decode method_4_code 105 = .ok (.bipush 13, 2) := by decide +kernel
theorem d2_107 : decode method_4_code 107 = .ok (.if_icmp .ne 5, 3) := by decide +kernel
theorem d2_110 : decode method_4_code 110 = .ok (.iconst 3, 1) := by decide +kernel
theorem d2_111 : decode method_4_code 111 = .ok (.ireturn, 1) := by decide +kernel
theorem d2_112 : decode method_4_code 112 = .ok (.iload_n 0, 1) := by decide +kernel
theorem d2_113 : decode method_4_code 113 = .ok (.bipush 14, 2) := by decide +kernel
theorem d2_115 : decode method_4_code 115 = .ok (.if_icmp .ne 5, 3) := by decide +kernel
theorem d2_118 : decode method_4_code 118 = .ok (.iconst 5, 1) := by decide +kernel
theorem d2_119 : decode method_4_code 119 = .ok (.ireturn, 1) := by decide +kernel
theorem d2_120 : decode method_4_code 120 = .ok (.iload_n 0, 1) := by decide +kernel
theorem d2_121 : decode method_4_code 121 = .ok (.bipush 15, 2) := by decide +kernel
theorem d2_123 : decode method_4_code 123 = .ok (.if_icmp .ne 5, 3) := by decide +kernel
theorem d2_126 : decode method_4_code 126 = .ok (.iconst 4, 1) := by decide +kernel
theorem d2_127 : decode method_4_code 127 = .ok (.ireturn, 1) := by decide +kernel
theorem d2_128 : decode method_4_code 128 = .ok (.iload_n 0, 1) := by decide +kernel
theorem d2_129 : decode method_4_code 129 = .ok (.bipush 16, 2) := by decide +kernel
theorem d2_131 : decode method_4_code 131 = .ok (.if_icmp .ne 5, 3) := by decide +kernel
theorem d2_134 : decode method_4_code 134 = .ok (.iconst 2, 1) := by decide +kernel
theorem d2_135 : decode method_4_code 135 = .ok (.ireturn, 1) := by decide +kernel
theorem d2_136 : decode method_4_code 136 = .ok (.iload_n 0, 1) := by decide +kernel
theorem d2_137 : decode method_4_code 137 = .ok (.bipush 17, 2) := by decide +kernel
theorem d2_139 : decode method_4_code 139 = .ok (.if_icmp .ne 5, 3) := by decide +kernel
theorem d2_142 : decode method_4_code 142 = .ok (.iconst 4, 1) := by decide +kernel
theorem d2_143 : decode method_4_code 143 = .ok (.ireturn, 1) := by decide +kernel
theorem d2_144 : decode method_4_code 144 = .ok (.iload_n 0, 1) := by decide +kernel
theorem d2_145 : decode method_4_code 145 = .ok (.bipush 18, 2) := by decide +kernel
theorem d2_147 : decode method_4_code 147 = .ok (.if_icmp .ne 5, 3) := by decide +kernel
theorem d2_150 : decode method_4_code 150 = .ok (.iconst 2, 1) := by decide +kernel
theorem d2_151 : decode method_4_code 151 = .ok (.ireturn, 1) := by decide +kernel
theorem d2_152 : decode method_4_code 152 = .ok (.iload_n 0, 1) := by decide +kernel
theorem d2_153 : decode method_4_code 153 = .ok (.bipush 19, 2) := by decide +kernel
theorem d2_155 : decode method_4_code 155 = .ok (.if_icmp .ne 5, 3) := by decide +kernel
theorem d2_158 : decode method_4_code 158 = .ok (.iconst 2, 1) := by decide +kernel
theorem d2_159 : decode method_4_code 159 = .ok (.ireturn, 1) := by decide +kernel
theorem d2_160 : decode method_4_code 160 = .ok (.iload_n 0, 1) := by decide +kernel
theorem d2_161 : decode method_4_code 161 = .ok (.bipush 20, 2) := by decide +kernel
theorem d2_163 : decode method_4_code 163 = .ok (.if_icmp .ne 5, 3) := by decide +kernel
theorem d2_166 : decode method_4_code 166 = .ok (.iconst 2, 1) := by decide +kernel
theorem d2_167 : decode method_4_code 167 = .ok (.ireturn, 1) := by decide +kernel
theorem d2_168 : decode method_4_code 168 = .ok (.iload_n 0, 1) := by decide +kernel
theorem d2_169 : decode method_4_code 169 = .ok (.bipush 21, 2) := by decide +kernel
theorem d2_171 : decode method_4_code 171 = .ok (.if_icmp .ne 5, 3) := by decide +kernel
theorem d2_174 : decode method_4_code 174 = .ok (.iconst 1, 1) := by decide +kernel
theorem d2_175 : decode method_4_code 175 = .ok (.ireturn, 1) := by decide +kernel
theorem d2_176 : decode method_4_code 176 = .ok (.sipush 32767, 3) := by decide +kernel
theorem d2_179 : decode method_4_code 179 = .ok (.ireturn, 1) := by decide +kernel
def own_f2 (p1 : Int32) : Int32 := (if p1 = (0 : Int32) then (9 : Int32) else (if p1 = (1 : Int32) then (12 : Int32) else (if p1 = (2 : Int32) then (6 : Int32) else (if p1 = (3 : Int32) then (9 : Int32) else (if p1 = (4 : Int32) then (8 : Int32) else (if p1 = (5 : Int32) then (6 : Int32) else (if p1 = (6 : Int32) then (3 : Int32) else (if p1 = (7 : Int32) then (6 : Int32) else (if p1 = (8 : Int32) then (4 : Int32) else (if p1 = (9 : Int32) then (4 : Int32) else (if p1 = (10 : Int32) then (4 : Int32) else (if p1 = (11 : Int32) then (5 : Int32) else (if p1 = (12 : Int32) then (3 : Int32) else (if p1 = (13 : Int32) then (3 : Int32) else (if p1 = (14 : Int32) then (5 : Int32) else (if p1 = (15 : Int32) then (4 : Int32) else (if p1 = (16 : Int32) then (2 : Int32) else (if p1 = (17 : Int32) then (4 : Int32) else (if p1 = (18 : Int32) then (2 : Int32) else (if p1 = (19 : Int32) then (2 : Int32) else (if p1 = (20 : Int32) then (2 : Int32) else (if p1 = (21 : Int32) then (1 : Int32) else (32767 : Int32)))))))))))))))))))))))
def Q2 (p1 : Int32) (h0 : Heap) (n0 : Nat) (v : Option Value) (h : Heap) (L : List Loc) : Prop := v = some (.int (own_f2 p1)) ∧ Fr n0 L ∧ h = h0
theorem ef_2 (m : MethodId) (x0 : Int32) : entryFrame m #[(.int x0)] 1 = mkF m 0 #[.val (.int x0)] [] := by first | (simp [entryFrame, mkF, argsToLocals, Value.category]; done) | rfl
set_option maxRecDepth 65536 in
set_option maxHeartbeats 40000000 in
theorem rm2 (l : Launch) (Z : State) (a0 : Array Value) (hw : ∀ d ∈ tables_1, d.before a0 Z = true) (ws : List Jvm.Cond) (p1 : Int32) (h0 : Heap) (n0 : Nat) :
    MetFree l (⟨"com/example/stierlin/stierlin/wire/ApiKeyIsFlexiblePinLaw", "first", "(I)I"⟩ : MethodName) (head1 (Jvm.Cond.code (⟨"com/example/stierlin/stierlin/wire/ApiKeyIsFlexiblePinLaw", "first", "(I)I"⟩ : MethodName) method_4_code 1 (some .int) :: ws) ({ frames := 0, cells := 0, slots := 0, locals := 0 } : Room)) (fun a U => a = #[(.int p1)] ∧ Z.Warmed39 U.vm ∧ U.heap = h0) (fun _ _ _ _ _ => True) (fun _ U o U' => ∃ v L, o = .returned v ∧ Q2 p1 h0 n0 v U'.heap L ∧ FrameEnd U o U' L ({ frames := 0, cells := 0, slots := 0, locals := 0 } : Room).cells ({ frames := 0, cells := 0, slots := 0, locals := 0 } : Room).slots) := by
  refine MetFree.of_bodySF (plainFor_of_name pn_0) hisR ?_
  intro p e s m args below meth c s₁ Bd hml0 hP hK
  obtain ⟨rfl, hZ, hh⟩ := hP
  have hx := Bd.exec
  have hby := Bd.bytes
  have hml : c.maxLocals = 1 := hml0
  have hown : s.vm.findClass "com/example/stierlin/stierlin/wire/ApiKeyIsFlexiblePinLaw" = some m.cls := findClass_of_methodNamed Bd.named
  have hnm := (name_of_methodNamed Bd.named Bd.method).1
  have X0 : Stand p l e ({ frames := 0, cells := 0, slots := 0, locals := 0 } : Room) s m #[(.int p1)] below meth c s₁ [] 0 0 := Stand.of_body Bd
  have e0 : s₁.heap = h0 := by rw [← hh, Bd.state]; rfl
  have N0 := Fr.nil n0
  have pre0 : ∀ t, Steps p.tables e below (s₁.setTop (mkF m 0 #[.val (.int p1)] [])) t → Steps p.tables e below (s₁.setTop (entryFrame m #[(.int p1)] 1)) t := fun t k => castTop (ef_2 m p1) k
  obtain ⟨fs, hr, hrun, hended, hW, hsame⟩ := X0.leave (v := some (.int (own_f2 p1))) (fun h => by rw [Bd.returns] at h; cases h)
  refine ⟨_, _, pre0 _ ?_, hrun, hended, _, _, rfl, ?_, ⟨_, rfl⟩, hW, hsame.mono (by decide) (by decide)⟩
  · skip
    have J0 : ∀ (hv : own_f2 p1 = own_f2 p1 ), Steps p.tables e below (s₁.setTop (mkF m 0 #[.val (.int p1)] [])) (s₁.setFrames fs) := by
      intro hv
      show Steps p.tables e below (s₁.setTop (mkF m 0 #[.val (.int p1)] [])) _
      refine XS.iloadN X0.here hx rfl (hb hby d2_0) rfl ?_
      show Steps p.tables e below (s₁.setTop (mkF m 1 #[.val (.int p1)] [(.int p1)])) _
      by_cases hc1 : p1 = (0 : Int32)
      · replace hv := hv.trans (if_pos hc1)
        refine XS.ifNo X0.here hx rfl (hb hby d2_1) rfl ((if0 _ _).trans (teq hc1).2) ?_
        show Steps p.tables e below (s₁.setTop (mkF m 4 #[.val (.int p1)] [])) _
        refine XS.bipush X0.here hx rfl (hb hby d2_4) ?_
        show Steps p.tables e below (s₁.setTop (mkF m 6 #[.val (.int p1)] [(.int (9 : Int32))])) _
        rw [hv] at hr
        exact retI X0 hx Bd.returns (hb hby d2_6) hr
      · replace hv := hv.trans (if_neg hc1)
        refine XS.ifYes X0.here hx rfl (pc0 := 1) (pc' := 7) rfl (hb hby d2_1) rfl ((if0 _ _).trans (feq hc1).2) (by decide) (by decide) ?_
        show Steps p.tables e below (s₁.setTop (mkF m 7 #[.val (.int p1)] [])) _
        refine XS.iloadN X0.here hx rfl (hb hby d2_7) rfl ?_
        show Steps p.tables e below (s₁.setTop (mkF m 8 #[.val (.int p1)] [(.int p1)])) _
        refine XS.iconst X0.here hx rfl (hb hby d2_8) ?_
        show Steps p.tables e below (s₁.setTop (mkF m 9 #[.val (.int p1)] [(.int (1 : Int32)), (.int p1)])) _
        by_cases hc9 : p1 = (1 : Int32)
        · replace hv := hv.trans (if_pos hc9)
          refine XS.icmpNo X0.here hx rfl (hb hby d2_9) rfl (teq hc9).2 ?_
          show Steps p.tables e below (s₁.setTop (mkF m 12 #[.val (.int p1)] [])) _
          refine XS.bipush X0.here hx rfl (hb hby d2_12) ?_
          show Steps p.tables e below (s₁.setTop (mkF m 14 #[.val (.int p1)] [(.int (12 : Int32))])) _
          rw [hv] at hr
          exact retI X0 hx Bd.returns (hb hby d2_14) hr
        · replace hv := hv.trans (if_neg hc9)
          refine XS.icmpYes X0.here hx rfl (pc0 := 9) (pc' := 15) rfl (hb hby d2_9) rfl (feq hc9).2 (by decide) (by decide) ?_
          show Steps p.tables e below (s₁.setTop (mkF m 15 #[.val (.int p1)] [])) _
          refine XS.iloadN X0.here hx rfl (hb hby d2_15) rfl ?_
          show Steps p.tables e below (s₁.setTop (mkF m 16 #[.val (.int p1)] [(.int p1)])) _
          refine XS.iconst X0.here hx rfl (hb hby d2_16) ?_
          show Steps p.tables e below (s₁.setTop (mkF m 17 #[.val (.int p1)] [(.int (2 : Int32)), (.int p1)])) _
          by_cases hc17 : p1 = (2 : Int32)
          · replace hv := hv.trans (if_pos hc17)
            refine XS.icmpNo X0.here hx rfl (hb hby d2_17) rfl (teq hc17).2 ?_
            show Steps p.tables e below (s₁.setTop (mkF m 20 #[.val (.int p1)] [])) _
            refine XS.bipush X0.here hx rfl (hb hby d2_20) ?_
            show Steps p.tables e below (s₁.setTop (mkF m 22 #[.val (.int p1)] [(.int (6 : Int32))])) _
            rw [hv] at hr
            exact retI X0 hx Bd.returns (hb hby d2_22) hr
          · replace hv := hv.trans (if_neg hc17)
            refine XS.icmpYes X0.here hx rfl (pc0 := 17) (pc' := 23) rfl (hb hby d2_17) rfl (feq hc17).2 (by decide) (by decide) ?_
            show Steps p.tables e below (s₁.setTop (mkF m 23 #[.val (.int p1)] [])) _
            refine XS.iloadN X0.here hx rfl (hb hby d2_23) rfl ?_
            show Steps p.tables e below (s₁.setTop (mkF m 24 #[.val (.int p1)] [(.int p1)])) _
            refine XS.iconst X0.here hx rfl (hb hby d2_24) ?_
            show Steps p.tables e below (s₁.setTop (mkF m 25 #[.val (.int p1)] [(.int (3 : Int32)), (.int p1)])) _
            by_cases hc25 : p1 = (3 : Int32)
            · replace hv := hv.trans (if_pos hc25)
              refine XS.icmpNo X0.here hx rfl (hb hby d2_25) rfl (teq hc25).2 ?_
              show Steps p.tables e below (s₁.setTop (mkF m 28 #[.val (.int p1)] [])) _
              refine XS.bipush X0.here hx rfl (hb hby d2_28) ?_
              show Steps p.tables e below (s₁.setTop (mkF m 30 #[.val (.int p1)] [(.int (9 : Int32))])) _
              rw [hv] at hr
              exact retI X0 hx Bd.returns (hb hby d2_30) hr
            · replace hv := hv.trans (if_neg hc25)
              refine XS.icmpYes X0.here hx rfl (pc0 := 25) (pc' := 31) rfl (hb hby d2_25) rfl (feq hc25).2 (by decide) (by decide) ?_
              show Steps p.tables e below (s₁.setTop (mkF m 31 #[.val (.int p1)] [])) _
              refine XS.iloadN X0.here hx rfl (hb hby d2_31) rfl ?_
              show Steps p.tables e below (s₁.setTop (mkF m 32 #[.val (.int p1)] [(.int p1)])) _
              refine XS.iconst X0.here hx rfl (hb hby d2_32) ?_
              show Steps p.tables e below (s₁.setTop (mkF m 33 #[.val (.int p1)] [(.int (4 : Int32)), (.int p1)])) _
              by_cases hc33 : p1 = (4 : Int32)
              · replace hv := hv.trans (if_pos hc33)
                refine XS.icmpNo X0.here hx rfl (hb hby d2_33) rfl (teq hc33).2 ?_
                show Steps p.tables e below (s₁.setTop (mkF m 36 #[.val (.int p1)] [])) _
                refine XS.bipush X0.here hx rfl (hb hby d2_36) ?_
                show Steps p.tables e below (s₁.setTop (mkF m 38 #[.val (.int p1)] [(.int (8 : Int32))])) _
                rw [hv] at hr
                exact retI X0 hx Bd.returns (hb hby d2_38) hr
              · replace hv := hv.trans (if_neg hc33)
                refine XS.icmpYes X0.here hx rfl (pc0 := 33) (pc' := 39) rfl (hb hby d2_33) rfl (feq hc33).2 (by decide) (by decide) ?_
                show Steps p.tables e below (s₁.setTop (mkF m 39 #[.val (.int p1)] [])) _
                refine XS.iloadN X0.here hx rfl (hb hby d2_39) rfl ?_
                show Steps p.tables e below (s₁.setTop (mkF m 40 #[.val (.int p1)] [(.int p1)])) _
                refine XS.iconst X0.here hx rfl (hb hby d2_40) ?_
                show Steps p.tables e below (s₁.setTop (mkF m 41 #[.val (.int p1)] [(.int (5 : Int32)), (.int p1)])) _
                by_cases hc41 : p1 = (5 : Int32)
                · replace hv := hv.trans (if_pos hc41)
                  refine XS.icmpNo X0.here hx rfl (hb hby d2_41) rfl (teq hc41).2 ?_
                  show Steps p.tables e below (s₁.setTop (mkF m 44 #[.val (.int p1)] [])) _
                  refine XS.bipush X0.here hx rfl (hb hby d2_44) ?_
                  show Steps p.tables e below (s₁.setTop (mkF m 46 #[.val (.int p1)] [(.int (6 : Int32))])) _
                  rw [hv] at hr
                  exact retI X0 hx Bd.returns (hb hby d2_46) hr
                · replace hv := hv.trans (if_neg hc41)
                  refine XS.icmpYes X0.here hx rfl (pc0 := 41) (pc' := 47) rfl (hb hby d2_41) rfl (feq hc41).2 (by decide) (by decide) ?_
                  show Steps p.tables e below (s₁.setTop (mkF m 47 #[.val (.int p1)] [])) _
                  refine XS.iloadN X0.here hx rfl (hb hby d2_47) rfl ?_
                  show Steps p.tables e below (s₁.setTop (mkF m 48 #[.val (.int p1)] [(.int p1)])) _
                  refine XS.bipush X0.here hx rfl (hb hby d2_48) ?_
                  show Steps p.tables e below (s₁.setTop (mkF m 50 #[.val (.int p1)] [(.int (6 : Int32)), (.int p1)])) _
                  by_cases hc50 : p1 = (6 : Int32)
                  · replace hv := hv.trans (if_pos hc50)
                    refine XS.icmpNo X0.here hx rfl (hb hby d2_50) rfl (teq hc50).2 ?_
                    show Steps p.tables e below (s₁.setTop (mkF m 53 #[.val (.int p1)] [])) _
                    refine XS.iconst X0.here hx rfl (hb hby d2_53) ?_
                    show Steps p.tables e below (s₁.setTop (mkF m 54 #[.val (.int p1)] [(.int (3 : Int32))])) _
                    rw [hv] at hr
                    exact retI X0 hx Bd.returns (hb hby d2_54) hr
                  · replace hv := hv.trans (if_neg hc50)
                    refine XS.icmpYes X0.here hx rfl (pc0 := 50) (pc' := 55) rfl (hb hby d2_50) rfl (feq hc50).2 (by decide) (by decide) ?_
                    show Steps p.tables e below (s₁.setTop (mkF m 55 #[.val (.int p1)] [])) _
                    refine XS.iloadN X0.here hx rfl (hb hby d2_55) rfl ?_
                    show Steps p.tables e below (s₁.setTop (mkF m 56 #[.val (.int p1)] [(.int p1)])) _
                    refine XS.bipush X0.here hx rfl (hb hby d2_56) ?_
                    show Steps p.tables e below (s₁.setTop (mkF m 58 #[.val (.int p1)] [(.int (7 : Int32)), (.int p1)])) _
                    by_cases hc58 : p1 = (7 : Int32)
                    · replace hv := hv.trans (if_pos hc58)
                      refine XS.icmpNo X0.here hx rfl (hb hby d2_58) rfl (teq hc58).2 ?_
                      show Steps p.tables e below (s₁.setTop (mkF m 61 #[.val (.int p1)] [])) _
                      refine XS.bipush X0.here hx rfl (hb hby d2_61) ?_
                      show Steps p.tables e below (s₁.setTop (mkF m 63 #[.val (.int p1)] [(.int (6 : Int32))])) _
                      rw [hv] at hr
                      exact retI X0 hx Bd.returns (hb hby d2_63) hr
                    · replace hv := hv.trans (if_neg hc58)
                      refine XS.icmpYes X0.here hx rfl (pc0 := 58) (pc' := 64) rfl (hb hby d2_58) rfl (feq hc58).2 (by decide) (by decide) ?_
                      show Steps p.tables e below (s₁.setTop (mkF m 64 #[.val (.int p1)] [])) _
                      refine XS.iloadN X0.here hx rfl (hb hby d2_64) rfl ?_
                      show Steps p.tables e below (s₁.setTop (mkF m 65 #[.val (.int p1)] [(.int p1)])) _
                      refine XS.bipush X0.here hx rfl (hb hby d2_65) ?_
                      show Steps p.tables e below (s₁.setTop (mkF m 67 #[.val (.int p1)] [(.int (8 : Int32)), (.int p1)])) _
                      by_cases hc67 : p1 = (8 : Int32)
                      · replace hv := hv.trans (if_pos hc67)
                        refine XS.icmpNo X0.here hx rfl (hb hby d2_67) rfl (teq hc67).2 ?_
                        show Steps p.tables e below (s₁.setTop (mkF m 70 #[.val (.int p1)] [])) _
                        refine XS.iconst X0.here hx rfl (hb hby d2_70) ?_
                        show Steps p.tables e below (s₁.setTop (mkF m 71 #[.val (.int p1)] [(.int (4 : Int32))])) _
                        rw [hv] at hr
                        exact retI X0 hx Bd.returns (hb hby d2_71) hr
                      · replace hv := hv.trans (if_neg hc67)
                        refine XS.icmpYes X0.here hx rfl (pc0 := 67) (pc' := 72) rfl (hb hby d2_67) rfl (feq hc67).2 (by decide) (by decide) ?_
                        show Steps p.tables e below (s₁.setTop (mkF m 72 #[.val (.int p1)] [])) _
                        refine XS.iloadN X0.here hx rfl (hb hby d2_72) rfl ?_
                        show Steps p.tables e below (s₁.setTop (mkF m 73 #[.val (.int p1)] [(.int p1)])) _
                        refine XS.bipush X0.here hx rfl (hb hby d2_73) ?_
                        show Steps p.tables e below (s₁.setTop (mkF m 75 #[.val (.int p1)] [(.int (9 : Int32)), (.int p1)])) _
                        by_cases hc75 : p1 = (9 : Int32)
                        · replace hv := hv.trans (if_pos hc75)
                          refine XS.icmpNo X0.here hx rfl (hb hby d2_75) rfl (teq hc75).2 ?_
                          show Steps p.tables e below (s₁.setTop (mkF m 78 #[.val (.int p1)] [])) _
                          refine XS.iconst X0.here hx rfl (hb hby d2_78) ?_
                          show Steps p.tables e below (s₁.setTop (mkF m 79 #[.val (.int p1)] [(.int (4 : Int32))])) _
                          rw [hv] at hr
                          exact retI X0 hx Bd.returns (hb hby d2_79) hr
                        · replace hv := hv.trans (if_neg hc75)
                          refine XS.icmpYes X0.here hx rfl (pc0 := 75) (pc' := 80) rfl (hb hby d2_75) rfl (feq hc75).2 (by decide) (by decide) ?_
                          show Steps p.tables e below (s₁.setTop (mkF m 80 #[.val (.int p1)] [])) _
                          refine XS.iloadN X0.here hx rfl (hb hby d2_80) rfl ?_
                          show Steps p.tables e below (s₁.setTop (mkF m 81 #[.val (.int p1)] [(.int p1)])) _
                          refine XS.bipush X0.here hx rfl (hb hby d2_81) ?_
                          show Steps p.tables e below (s₁.setTop (mkF m 83 #[.val (.int p1)] [(.int (10 : Int32)), (.int p1)])) _
                          by_cases hc83 : p1 = (10 : Int32)
                          · replace hv := hv.trans (if_pos hc83)
                            refine XS.icmpNo X0.here hx rfl (hb hby d2_83) rfl (teq hc83).2 ?_
                            show Steps p.tables e below (s₁.setTop (mkF m 86 #[.val (.int p1)] [])) _
                            refine XS.iconst X0.here hx rfl (hb hby d2_86) ?_
                            show Steps p.tables e below (s₁.setTop (mkF m 87 #[.val (.int p1)] [(.int (4 : Int32))])) _
                            rw [hv] at hr
                            exact retI X0 hx Bd.returns (hb hby d2_87) hr
                          · replace hv := hv.trans (if_neg hc83)
                            refine XS.icmpYes X0.here hx rfl (pc0 := 83) (pc' := 88) rfl (hb hby d2_83) rfl (feq hc83).2 (by decide) (by decide) ?_
                            show Steps p.tables e below (s₁.setTop (mkF m 88 #[.val (.int p1)] [])) _
                            refine XS.iloadN X0.here hx rfl (hb hby d2_88) rfl ?_
                            show Steps p.tables e below (s₁.setTop (mkF m 89 #[.val (.int p1)] [(.int p1)])) _
                            refine XS.bipush X0.here hx rfl (hb hby d2_89) ?_
                            show Steps p.tables e below (s₁.setTop (mkF m 91 #[.val (.int p1)] [(.int (11 : Int32)), (.int p1)])) _
                            by_cases hc91 : p1 = (11 : Int32)
                            · replace hv := hv.trans (if_pos hc91)
                              refine XS.icmpNo X0.here hx rfl (hb hby d2_91) rfl (teq hc91).2 ?_
                              show Steps p.tables e below (s₁.setTop (mkF m 94 #[.val (.int p1)] [])) _
                              refine XS.iconst X0.here hx rfl (hb hby d2_94) ?_
                              show Steps p.tables e below (s₁.setTop (mkF m 95 #[.val (.int p1)] [(.int (5 : Int32))])) _
                              rw [hv] at hr
                              exact retI X0 hx Bd.returns (hb hby d2_95) hr
                            · replace hv := hv.trans (if_neg hc91)
                              refine XS.icmpYes X0.here hx rfl (pc0 := 91) (pc' := 96) rfl (hb hby d2_91) rfl (feq hc91).2 (by decide) (by decide) ?_
                              show Steps p.tables e below (s₁.setTop (mkF m 96 #[.val (.int p1)] [])) _
                              refine XS.iloadN X0.here hx rfl (hb hby d2_96) rfl ?_
                              show Steps p.tables e below (s₁.setTop (mkF m 97 #[.val (.int p1)] [(.int p1)])) _
                              refine XS.bipush X0.here hx rfl (hb hby d2_97) ?_
                              show Steps p.tables e below (s₁.setTop (mkF m 99 #[.val (.int p1)] [(.int (12 : Int32)), (.int p1)])) _
                              by_cases hc99 : p1 = (12 : Int32)
                              · replace hv := hv.trans (if_pos hc99)
                                refine XS.icmpNo X0.here hx rfl (hb hby d2_99) rfl (teq hc99).2 ?_
                                show Steps p.tables e below (s₁.setTop (mkF m 102 #[.val (.int p1)] [])) _
                                refine XS.iconst X0.here hx rfl (hb hby d2_102) ?_
                                show Steps p.tables e below (s₁.setTop (mkF m 103 #[.val (.int p1)] [(.int (3 : Int32))])) _
                                rw [hv] at hr
                                exact retI X0 hx Bd.returns (hb hby d2_103) hr
                              · replace hv := hv.trans (if_neg hc99)
                                refine XS.icmpYes X0.here hx rfl (pc0 := 99) (pc' := 104) rfl (hb hby d2_99) rfl (feq hc99).2 (by decide) (by decide) ?_
                                show Steps p.tables e below (s₁.setTop (mkF m 104 #[.val (.int p1)] [])) _
                                refine XS.iloadN X0.here hx rfl (hb hby d2_104) rfl ?_
                                show Steps p.tables e below (s₁.setTop (mkF m 105 #[.val (.int p1)] [(.int p1)])) _
                                refine XS.bipush X0.here hx rfl (hb hby d2_105) ?_
                                show Steps p.tables e below (s₁.setTop (mkF m 107 #[.val (.int p1)] [(.int (13 : Int32)), (.int p1)])) _
                                by_cases hc107 : p1 = (13 : Int32)
                                · replace hv := hv.trans (if_pos hc107)
                                  refine XS.icmpNo X0.here hx rfl (hb hby d2_107) rfl (teq hc107).2 ?_
                                  show Steps p.tables e below (s₁.setTop (mkF m 110 #[.val (.int p1)] [])) _
                                  refine XS.iconst X0.here hx rfl (hb hby d2_110) ?_
                                  show Steps p.tables e below (s₁.setTop (mkF m 111 #[.val (.int p1)] [(.int (3 : Int32))])) _
                                  rw [hv] at hr
                                  exact retI X0 hx Bd.returns (hb hby d2_111) hr
                                · replace hv := hv.trans (if_neg hc107)
                                  refine XS.icmpYes X0.here hx rfl (pc0 := 107) (pc' := 112) rfl (hb hby d2_107) rfl (feq hc107).2 (by decide) (by decide) ?_
                                  show Steps p.tables e below (s₁.setTop (mkF m 112 #[.val (.int p1)] [])) _
                                  refine XS.iloadN X0.here hx rfl (hb hby d2_112) rfl ?_
                                  show Steps p.tables e below (s₁.setTop (mkF m 113 #[.val (.int p1)] [(.int p1)])) _
                                  refine XS.bipush X0.here hx rfl (hb hby d2_113) ?_
                                  show Steps p.tables e below (s₁.setTop (mkF m 115 #[.val (.int p1)] [(.int (14 : Int32)), (.int p1)])) _
                                  by_cases hc115 : p1 = (14 : Int32)
                                  · replace hv := hv.trans (if_pos hc115)
                                    refine XS.icmpNo X0.here hx rfl (hb hby d2_115) rfl (teq hc115).2 ?_
                                    show Steps p.tables e below (s₁.setTop (mkF m 118 #[.val (.int p1)] [])) _
                                    refine XS.iconst X0.here hx rfl (hb hby d2_118) ?_
                                    show Steps p.tables e below (s₁.setTop (mkF m 119 #[.val (.int p1)] [(.int (5 : Int32))])) _
                                    rw [hv] at hr
                                    exact retI X0 hx Bd.returns (hb hby d2_119) hr
                                  · replace hv := hv.trans (if_neg hc115)
                                    refine XS.icmpYes X0.here hx rfl (pc0 := 115) (pc' := 120) rfl (hb hby d2_115) rfl (feq hc115).2 (by decide) (by decide) ?_
                                    show Steps p.tables e below (s₁.setTop (mkF m 120 #[.val (.int p1)] [])) _
                                    refine XS.iloadN X0.here hx rfl (hb hby d2_120) rfl ?_
                                    show Steps p.tables e below (s₁.setTop (mkF m 121 #[.val (.int p1)] [(.int p1)])) _
                                    refine XS.bipush X0.here hx rfl (hb hby d2_121) ?_
                                    show Steps p.tables e below (s₁.setTop (mkF m 123 #[.val (.int p1)] [(.int (15 : Int32)), (.int p1)])) _
                                    by_cases hc123 : p1 = (15 : Int32)
                                    · replace hv := hv.trans (if_pos hc123)
                                      refine XS.icmpNo X0.here hx rfl (hb hby d2_123) rfl (teq hc123).2 ?_
                                      show Steps p.tables e below (s₁.setTop (mkF m 126 #[.val (.int p1)] [])) _
                                      refine XS.iconst X0.here hx rfl (hb hby d2_126) ?_
                                      show Steps p.tables e below (s₁.setTop (mkF m 127 #[.val (.int p1)] [(.int (4 : Int32))])) _
                                      rw [hv] at hr
                                      exact retI X0 hx Bd.returns (hb hby d2_127) hr
                                    · replace hv := hv.trans (if_neg hc123)
                                      refine XS.icmpYes X0.here hx rfl (pc0 := 123) (pc' := 128) rfl (hb hby d2_123) rfl (feq hc123).2 (by decide) (by decide) ?_
                                      show Steps p.tables e below (s₁.setTop (mkF m 128 #[.val (.int p1)] [])) _
                                      refine XS.iloadN X0.here hx rfl (hb hby d2_128) rfl ?_
                                      show Steps p.tables e below (s₁.setTop (mkF m 129 #[.val (.int p1)] [(.int p1)])) _
                                      refine XS.bipush X0.here hx rfl (hb hby d2_129) ?_
                                      show Steps p.tables e below (s₁.setTop (mkF m 131 #[.val (.int p1)] [(.int (16 : Int32)), (.int p1)])) _
                                      by_cases hc131 : p1 = (16 : Int32)
                                      · replace hv := hv.trans (if_pos hc131)
                                        refine XS.icmpNo X0.here hx rfl (hb hby d2_131) rfl (teq hc131).2 ?_
                                        show Steps p.tables e below (s₁.setTop (mkF m 134 #[.val (.int p1)] [])) _
                                        refine XS.iconst X0.here hx rfl (hb hby d2_134) ?_
                                        show Steps p.tables e below (s₁.setTop (mkF m 135 #[.val (.int p1)] [(.int (2 : Int32))])) _
                                        rw [hv] at hr
                                        exact retI X0 hx Bd.returns (hb hby d2_135) hr
                                      · replace hv := hv.trans (if_neg hc131)
                                        refine XS.icmpYes X0.here hx rfl (pc0 := 131) (pc' := 136) rfl (hb hby d2_131) rfl (feq hc131).2 (by decide) (by decide) ?_
                                        show Steps p.tables e below (s₁.setTop (mkF m 136 #[.val (.int p1)] [])) _
                                        refine XS.iloadN X0.here hx rfl (hb hby d2_136) rfl ?_
                                        show Steps p.tables e below (s₁.setTop (mkF m 137 #[.val (.int p1)] [(.int p1)])) _
                                        refine XS.bipush X0.here hx rfl (hb hby d2_137) ?_
                                        show Steps p.tables e below (s₁.setTop (mkF m 139 #[.val (.int p1)] [(.int (17 : Int32)), (.int p1)])) _
                                        by_cases hc139 : p1 = (17 : Int32)
                                        · replace hv := hv.trans (if_pos hc139)
                                          refine XS.icmpNo X0.here hx rfl (hb hby d2_139) rfl (teq hc139).2 ?_
                                          show Steps p.tables e below (s₁.setTop (mkF m 142 #[.val (.int p1)] [])) _
                                          refine XS.iconst X0.here hx rfl (hb hby d2_142) ?_
                                          show Steps p.tables e below (s₁.setTop (mkF m 143 #[.val (.int p1)] [(.int (4 : Int32))])) _
                                          rw [hv] at hr
                                          exact retI X0 hx Bd.returns (hb hby d2_143) hr
                                        · replace hv := hv.trans (if_neg hc139)
                                          refine XS.icmpYes X0.here hx rfl (pc0 := 139) (pc' := 144) rfl (hb hby d2_139) rfl (feq hc139).2 (by decide) (by decide) ?_
                                          show Steps p.tables e below (s₁.setTop (mkF m 144 #[.val (.int p1)] [])) _
                                          refine XS.iloadN X0.here hx rfl (hb hby d2_144) rfl ?_
                                          show Steps p.tables e below (s₁.setTop (mkF m 145 #[.val (.int p1)] [(.int p1)])) _
                                          refine XS.bipush X0.here hx rfl (hb hby d2_145) ?_
                                          show Steps p.tables e below (s₁.setTop (mkF m 147 #[.val (.int p1)] [(.int (18 : Int32)), (.int p1)])) _
                                          by_cases hc147 : p1 = (18 : Int32)
                                          · replace hv := hv.trans (if_pos hc147)
                                            refine XS.icmpNo X0.here hx rfl (hb hby d2_147) rfl (teq hc147).2 ?_
                                            show Steps p.tables e below (s₁.setTop (mkF m 150 #[.val (.int p1)] [])) _
                                            refine XS.iconst X0.here hx rfl (hb hby d2_150) ?_
                                            show Steps p.tables e below (s₁.setTop (mkF m 151 #[.val (.int p1)] [(.int (2 : Int32))])) _
                                            rw [hv] at hr
                                            exact retI X0 hx Bd.returns (hb hby d2_151) hr
                                          · replace hv := hv.trans (if_neg hc147)
                                            refine XS.icmpYes X0.here hx rfl (pc0 := 147) (pc' := 152) rfl (hb hby d2_147) rfl (feq hc147).2 (by decide) (by decide) ?_
                                            show Steps p.tables e below (s₁.setTop (mkF m 152 #[.val (.int p1)] [])) _
                                            refine XS.iloadN X0.here hx rfl (hb hby d2_152) rfl ?_
                                            show Steps p.tables e below (s₁.setTop (mkF m 153 #[.val (.int p1)] [(.int p1)])) _
                                            refine XS.bipush X0.here hx rfl (hb hby d2_153) ?_
                                            show Steps p.tables e below (s₁.setTop (mkF m 155 #[.val (.int p1)] [(.int (19 : Int32)), (.int p1)])) _
                                            by_cases hc155 : p1 = (19 : Int32)
                                            · replace hv := hv.trans (if_pos hc155)
                                              refine XS.icmpNo X0.here hx rfl (hb hby d2_155) rfl (teq hc155).2 ?_
                                              show Steps p.tables e below (s₁.setTop (mkF m 158 #[.val (.int p1)] [])) _
                                              refine XS.iconst X0.here hx rfl (hb hby d2_158) ?_
                                              show Steps p.tables e below (s₁.setTop (mkF m 159 #[.val (.int p1)] [(.int (2 : Int32))])) _
                                              rw [hv] at hr
                                              exact retI X0 hx Bd.returns (hb hby d2_159) hr
                                            · replace hv := hv.trans (if_neg hc155)
                                              refine XS.icmpYes X0.here hx rfl (pc0 := 155) (pc' := 160) rfl (hb hby d2_155) rfl (feq hc155).2 (by decide) (by decide) ?_
                                              show Steps p.tables e below (s₁.setTop (mkF m 160 #[.val (.int p1)] [])) _
                                              refine XS.iloadN X0.here hx rfl (hb hby d2_160) rfl ?_
                                              show Steps p.tables e below (s₁.setTop (mkF m 161 #[.val (.int p1)] [(.int p1)])) _
                                              refine XS.bipush X0.here hx rfl (hb hby d2_161) ?_
                                              show Steps p.tables e below (s₁.setTop (mkF m 163 #[.val (.int p1)] [(.int (20 : Int32)), (.int p1)])) _
                                              by_cases hc163 : p1 = (20 : Int32)
                                              · replace hv := hv.trans (if_pos hc163)
                                                refine XS.icmpNo X0.here hx rfl (hb hby d2_163) rfl (teq hc163).2 ?_
                                                show Steps p.tables e below (s₁.setTop (mkF m 166 #[.val (.int p1)] [])) _
                                                refine XS.iconst X0.here hx rfl (hb hby d2_166) ?_
                                                show Steps p.tables e below (s₁.setTop (mkF m 167 #[.val (.int p1)] [(.int (2 : Int32))])) _
                                                rw [hv] at hr
                                                exact retI X0 hx Bd.returns (hb hby d2_167) hr
                                              · replace hv := hv.trans (if_neg hc163)
                                                refine XS.icmpYes X0.here hx rfl (pc0 := 163) (pc' := 168) rfl (hb hby d2_163) rfl (feq hc163).2 (by decide) (by decide) ?_
                                                show Steps p.tables e below (s₁.setTop (mkF m 168 #[.val (.int p1)] [])) _
                                                refine XS.iloadN X0.here hx rfl (hb hby d2_168) rfl ?_
                                                show Steps p.tables e below (s₁.setTop (mkF m 169 #[.val (.int p1)] [(.int p1)])) _
                                                refine XS.bipush X0.here hx rfl (hb hby d2_169) ?_
                                                show Steps p.tables e below (s₁.setTop (mkF m 171 #[.val (.int p1)] [(.int (21 : Int32)), (.int p1)])) _
                                                by_cases hc171 : p1 = (21 : Int32)
                                                · replace hv := hv.trans (if_pos hc171)
                                                  refine XS.icmpNo X0.here hx rfl (hb hby d2_171) rfl (teq hc171).2 ?_
                                                  show Steps p.tables e below (s₁.setTop (mkF m 174 #[.val (.int p1)] [])) _
                                                  refine XS.iconst X0.here hx rfl (hb hby d2_174) ?_
                                                  show Steps p.tables e below (s₁.setTop (mkF m 175 #[.val (.int p1)] [(.int (1 : Int32))])) _
                                                  rw [hv] at hr
                                                  exact retI X0 hx Bd.returns (hb hby d2_175) hr
                                                · replace hv := hv.trans (if_neg hc171)
                                                  refine XS.icmpYes X0.here hx rfl (pc0 := 171) (pc' := 176) rfl (hb hby d2_171) rfl (feq hc171).2 (by decide) (by decide) ?_
                                                  show Steps p.tables e below (s₁.setTop (mkF m 176 #[.val (.int p1)] [])) _
                                                  refine XS.sipush X0.here hx rfl (hb hby d2_176) ?_
                                                  show Steps p.tables e below (s₁.setTop (mkF m 179 #[.val (.int p1)] [(.int (32767 : Int32))])) _
                                                  rw [hv] at hr
                                                  exact retI X0 hx Bd.returns (hb hby d2_179) hr
    exact J0 rfl
  · show Q2 p1 h0 n0 _ s₁.heap _
    rw [e0]
    exact ⟨rfl, N0, rfl⟩

set_option maxRecDepth 65536 in
theorem own_idx_lt (k : Int32) : own_idx k < 25 := by
  by_cases h0 : k = 0
  · subst h0; decide
  by_cases h1 : k = 1
  · subst h1; decide
  by_cases h2 : k = 2
  · subst h2; decide
  by_cases h3 : k = 3
  · subst h3; decide
  by_cases h4 : k = 4
  · subst h4; decide
  by_cases h5 : k = 5
  · subst h5; decide
  by_cases h6 : k = 6
  · subst h6; decide
  by_cases h7 : k = 7
  · subst h7; decide
  by_cases h8 : k = 8
  · subst h8; decide
  by_cases h9 : k = 9
  · subst h9; decide
  by_cases h10 : k = 10
  · subst h10; decide
  by_cases h11 : k = 11
  · subst h11; decide
  by_cases h12 : k = 12
  · subst h12; decide
  by_cases h13 : k = 13
  · subst h13; decide
  by_cases h14 : k = 14
  · subst h14; decide
  by_cases h15 : k = 15
  · subst h15; decide
  by_cases h16 : k = 16
  · subst h16; decide
  by_cases h17 : k = 17
  · subst h17; decide
  by_cases h18 : k = 18
  · subst h18; decide
  by_cases h19 : k = 19
  · subst h19; decide
  by_cases h20 : k = 20
  · subst h20; decide
  by_cases h21 : k = 21
  · subst h21; decide
  by_cases h22 : k = 22
  · subst h22; decide
  by_cases h23 : k = 23
  · subst h23; decide
  simp only [own_idx, h0, h1, h2, h3, h4, h5, h6, h7, h8, h9, h10, h11, h12, h13, h14, h15, h16, h17, h18, h19, h20, h21, h22, h23, ↓reduceIte]; decide
set_option maxRecDepth 65536 in
theorem own_first (k : Int32) : own_val (own_idx k) = own_f2 k := by
  by_cases h0 : k = 0
  · subst h0; decide
  by_cases h1 : k = 1
  · subst h1; decide
  by_cases h2 : k = 2
  · subst h2; decide
  by_cases h3 : k = 3
  · subst h3; decide
  by_cases h4 : k = 4
  · subst h4; decide
  by_cases h5 : k = 5
  · subst h5; decide
  by_cases h6 : k = 6
  · subst h6; decide
  by_cases h7 : k = 7
  · subst h7; decide
  by_cases h8 : k = 8
  · subst h8; decide
  by_cases h9 : k = 9
  · subst h9; decide
  by_cases h10 : k = 10
  · subst h10; decide
  by_cases h11 : k = 11
  · subst h11; decide
  by_cases h12 : k = 12
  · subst h12; decide
  by_cases h13 : k = 13
  · subst h13; decide
  by_cases h14 : k = 14
  · subst h14; decide
  by_cases h15 : k = 15
  · subst h15; decide
  by_cases h16 : k = 16
  · subst h16; decide
  by_cases h17 : k = 17
  · subst h17; decide
  by_cases h18 : k = 18
  · subst h18; decide
  by_cases h19 : k = 19
  · subst h19; decide
  by_cases h20 : k = 20
  · subst h20; decide
  by_cases h21 : k = 21
  · subst h21; decide
  by_cases h22 : k = 22
  · subst h22; decide
  by_cases h23 : k = 23
  · subst h23; decide
  simp only [own_idx, own_f2, h0, h1, h2, h3, h4, h5, h6, h7, h8, h9, h10, h11, h12, h13, h14, h15, h16, h17, h18, h19, h20, h21, h22, h23, ↓reduceIte]; decide
def own_flex (v f : Int32) : Int32 := if v < f then 0 else 1
theorem own_vals_ok : ∀ i, i < 25 → ((own_val i).toInt16.toInt32 < own_val i) = False ∧ ((own_val i - 1).toInt16.toInt32 < own_val i) = True := by
  intro i hi
  have t : ∀ j : Fin 25, ¬ ((own_val j.val).toInt16.toInt32 < own_val j.val) ∧ ((own_val j.val - 1).toInt16.toInt32 < own_val j.val) := by decide +kernel
  exact ⟨eq_false (t ⟨i, hi⟩).1, eq_true (t ⟨i, hi⟩).2⟩

def Qrm1 (Z : State) (p1 : Int32) (sf : Nat → Addr) (h0 : Heap) (n0 : Nat) (v : Option Value) (h : Heap) (L : List Loc) : Prop := v = some (.ref (sf (own_idx p1))) ∧ Fr n0 L ∧ h = h0
theorem d1_0 : decode method_3_code 0 = .ok (.iload_n 0, 1) := by decide +kernel
theorem d1_1 : decode method_3_code 1 = .ok (.ifCond .ne 7, 3) := by decide +kernel
theorem d1_4 : decode method_3_code 4 = .ok (.getstatic 24, 3) := by decide +kernel
theorem d1_7 : decode method_3_code 7 = .ok (.areturn, 1) := by decide +kernel
theorem d1_8 : decode method_3_code 8 = .ok (.iload_n 0, 1) := by decide +kernel
theorem d1_9 : decode method_3_code 9 = .ok (.iconst 1, 1) := by decide +kernel
theorem d1_10 : decode method_3_code 10 = .ok (.if_icmp .ne 7, 3) := by decide +kernel
theorem d1_13 : decode method_3_code 13 = .ok (.getstatic 28, 3) := by decide +kernel
theorem d1_16 : decode method_3_code 16 = .ok (.areturn, 1) := by decide +kernel
theorem d1_17 : decode method_3_code 17 = .ok (.iload_n 0, 1) := by decide +kernel
theorem d1_18 : decode method_3_code 18 = .ok (.iconst 2, 1) := by decide +kernel
theorem d1_19 : decode method_3_code 19 = .ok (.if_icmp .ne 7, 3) := by decide +kernel
theorem d1_22 : decode method_3_code 22 = .ok (.getstatic 31, 3) := by decide +kernel
theorem d1_25 : decode method_3_code 25 = .ok (.areturn, 1) := by decide +kernel
theorem d1_26 : decode method_3_code 26 = .ok (.iload_n 0, 1) := by decide +kernel
theorem d1_27 : decode method_3_code 27 = .ok (.iconst 3, 1) := by decide +kernel
theorem d1_28 : decode method_3_code 28 = .ok (.if_icmp .ne 7, 3) := by decide +kernel
theorem d1_31 : decode method_3_code 31 = .ok (.getstatic 34, 3) := by decide +kernel
theorem d1_34 : decode method_3_code 34 = .ok (.areturn, 1) := by decide +kernel
theorem d1_35 : decode method_3_code 35 = .ok (.iload_n 0, 1) := by decide +kernel
theorem d1_36 : decode method_3_code 36 = .ok (.iconst 4, 1) := by decide +kernel
theorem d1_37 : decode method_3_code 37 = .ok (.if_icmp .ne 7, 3) := by decide +kernel
theorem d1_40 : decode method_3_code 40 = .ok (.getstatic 37, 3) := by decide +kernel
theorem d1_43 : decode method_3_code 43 = .ok (.areturn, 1) := by decide +kernel
theorem d1_44 : decode method_3_code 44 = .ok (.iload_n 0, 1) := by decide +kernel
theorem d1_45 : decode method_3_code 45 = .ok (.iconst 5, 1) := by decide +kernel
theorem d1_46 : decode method_3_code 46 = .ok (.if_icmp .ne 7, 3) := by decide +kernel
theorem d1_49 : decode method_3_code 49 = .ok (.getstatic 40, 3) := by decide +kernel
theorem d1_52 : decode method_3_code 52 = .ok (.areturn, 1) := by decide +kernel
theorem d1_53 : decode method_3_code 53 = .ok (.iload_n 0, 1) := by decide +kernel
theorem d1_54 : decode method_3_code 54 = .ok (.bipush 6, 2) := by decide +kernel
theorem d1_56 : decode method_3_code 56 = .ok (.if_icmp .ne 7, 3) := by decide +kernel
theorem d1_59 : decode method_3_code 59 = .ok (.getstatic 43, 3) := by decide +kernel
theorem d1_62 : decode method_3_code 62 = .ok (.areturn, 1) := by decide +kernel
theorem d1_63 : decode method_3_code 63 = .ok (.iload_n 0, 1) := by decide +kernel
theorem d1_64 : decode method_3_code 64 = .ok (.bipush 7, 2) := by decide +kernel
theorem d1_66 : decode method_3_code 66 = .ok (.if_icmp .ne 7, 3) := by decide +kernel
theorem d1_69 : decode method_3_code 69 = .ok (.getstatic 46, 3) := by decide +kernel
theorem d1_72 : decode method_3_code 72 = .ok (.areturn, 1) := by decide +kernel
theorem d1_73 : decode method_3_code 73 = .ok (.iload_n 0, 1) := by decide +kernel
theorem d1_74 : decode method_3_code 74 = .ok (.bipush 8, 2) := by decide +kernel
theorem d1_76 : decode method_3_code 76 = .ok (.if_icmp .ne 7, 3) := by decide +kernel
theorem d1_79 : decode method_3_code 79 = .ok (.getstatic 49, 3) := by decide +kernel
theorem d1_82 : decode method_3_code 82 = .ok (.areturn, 1) := by decide +kernel
theorem d1_83 : decode method_3_code 83 = .ok (.iload_n 0, 1) := by decide +kernel
theorem d1_84 : decode method_3_code 84 = .ok (.bipush 9, 2) := by decide +kernel
theorem d1_86 : decode method_3_code 86 = .ok (.if_icmp .ne 7, 3) := by decide +kernel
theorem d1_89 : decode method_3_code 89 = .ok (.getstatic 52, 3) := by decide +kernel
theorem d1_92 : decode method_3_code 92 = .ok (.areturn, 1) := by decide +kernel
theorem d1_93 : decode method_3_code 93 = .ok (.iload_n 0, 1) := by decide +kernel
theorem d1_94 : decode method_3_code 94 = .ok (.bipush 10, 2) := by decide +kernel
theorem d1_96 : decode method_3_code 96 = .ok (.if_icmp .ne 7, 3) := by decide +kernel
theorem d1_99 : decode method_3_code 99 = .ok (.getstatic 55, 3) := by decide +kernel
theorem d1_102 : decode method_3_code 102 = .ok (.areturn, 1) := by decide +kernel
theorem d1_103 : decode method_3_code 103 = .ok (.iload_n 0, 1) := by decide +kernel
theorem d1_104 : decode method_3_code 104 = .ok (.bipush 11, 2) := by decide +kernel
theorem d1_106 : decode method_3_code 106 = .ok (.if_icmp .ne 7, 3) := by decide +kernel
theorem d1_109 : decode method_3_code 109 = .ok (.getstatic 58, 3) := by decide +kernel
theorem d1_112 : decode method_3_code 112 = .ok (.areturn, 1) := by decide +kernel
theorem d1_113 : decode method_3_code 113 = .ok (.iload_n 0, 1) := by decide +kernel
theorem d1_114 : decode method_3_code 114 = .ok (.bipush 12, 2) := by decide +kernel
theorem d1_116 : decode method_3_code 116 = .ok (.if_icmp .ne 7, 3) := by decide +kernel
theorem d1_119 : decode method_3_code 119 = .ok (.getstatic 61, 3) := by decide +kernel
theorem d1_122 : decode method_3_code 122 = .ok (.areturn, 1) := by decide +kernel
theorem d1_123 : decode method_3_code 123 = .ok (.iload_n 0, 1) := by decide +kernel
theorem d1_124 : decode method_3_code 124 = .ok (.bipush 13, 2) := by decide +kernel
theorem d1_126 : decode method_3_code 126 = .ok (.if_icmp .ne 7, 3) := by decide +kernel
theorem d1_129 : decode method_3_code 129 = .ok (.getstatic 64, 3) := by decide +kernel
theorem d1_132 : decode method_3_code 132 = .ok (.areturn, 1) := by decide +kernel
theorem d1_133 : decode method_3_code 133 = .ok (.iload_n 0, 1) := by decide +kernel
theorem d1_134 : decode method_3_code 134 = .ok (.bipush 14, 2) := by decide +kernel
theorem d1_136 : decode method_3_code 136 = .ok (.if_icmp .ne 7, 3) := by decide +kernel
theorem d1_139 : decode method_3_code 139 = .ok (.getstatic 67, 3) := by decide +kernel
theorem d1_142 : decode method_3_code 142 = .ok (.areturn, 1) := by decide +kernel
theorem d1_143 : decode method_3_code 143 = .ok (.iload_n 0, 1) := by decide +kernel
theorem d1_144 : decode method_3_code 144 = .ok (.bipush 15, 2) := by decide +kernel
theorem d1_146 : decode method_3_code 146 = .ok (.if_icmp .ne 7, 3) := by decide +kernel
theorem d1_149 : decode method_3_code 149 = .ok (.getstatic 70, 3) := by decide +kernel
theorem d1_152 : decode method_3_code 152 = .ok (.areturn, 1) := by decide +kernel
theorem d1_153 : decode method_3_code 153 = .ok (.iload_n 0, 1) := by decide +kernel
theorem d1_154 : decode method_3_code 154 = .ok (.bipush 16, 2) := by decide +kernel
theorem d1_156 : decode method_3_code 156 = .ok (.if_icmp .ne 7, 3) := by decide +kernel
theorem d1_159 : decode method_3_code 159 = .ok (.getstatic 73, 3) := by decide +kernel
theorem d1_162 : decode method_3_code 162 = .ok (.areturn, 1) := by decide +kernel
theorem d1_163 : decode method_3_code 163 = .ok (.iload_n 0, 1) := by decide +kernel
theorem d1_164 : decode method_3_code 164 = .ok (.bipush 17, 2) := by decide +kernel
theorem d1_166 : decode method_3_code 166 = .ok (.if_icmp .ne 7, 3) := by decide +kernel
theorem d1_169 : decode method_3_code 169 = .ok (.getstatic 76, 3) := by decide +kernel
theorem d1_172 : decode method_3_code 172 = .ok (.areturn, 1) := by decide +kernel
theorem d1_173 : decode method_3_code 173 = .ok (.iload_n 0, 1) := by decide +kernel
theorem d1_174 : decode method_3_code 174 = .ok (.bipush 18, 2) := by decide +kernel
theorem d1_176 : decode method_3_code 176 = .ok (.if_icmp .ne 7, 3) := by decide +kernel
theorem d1_179 : decode method_3_code 179 = .ok (.getstatic 79, 3) := by decide +kernel
theorem d1_182 : decode method_3_code 182 = .ok (.areturn, 1) := by decide +kernel
theorem d1_183 : decode method_3_code 183 = .ok (.iload_n 0, 1) := by decide +kernel
theorem d1_184 : decode method_3_code 184 = .ok (.bipush 19, 2) := by decide +kernel
theorem d1_186 : decode method_3_code 186 = .ok (.if_icmp .ne 7, 3) := by decide +kernel
theorem d1_189 : decode method_3_code 189 = .ok (.getstatic 82, 3) := by decide +kernel
theorem d1_192 : decode method_3_code 192 = .ok (.areturn, 1) := by decide +kernel
theorem d1_193 : decode method_3_code 193 = .ok (.iload_n 0, 1) := by decide +kernel
theorem d1_194 : decode method_3_code 194 = .ok (.bipush 20, 2) := by decide +kernel
theorem d1_196 : decode method_3_code 196 = .ok (.if_icmp .ne 7, 3) := by decide +kernel
theorem d1_199 : decode method_3_code 199 = .ok (.getstatic 85, 3) := by decide +kernel
theorem d1_202 : decode method_3_code 202 = .ok (.areturn, 1) := by decide +kernel
theorem d1_203 : decode method_3_code 203 = .ok (.iload_n 0, 1) := by decide +kernel
theorem d1_204 : decode method_3_code 204 = .ok (.bipush 21, 2) := by decide +kernel
theorem d1_206 : decode method_3_code 206 = .ok (.if_icmp .ne 7, 3) := by decide +kernel
theorem d1_209 : decode method_3_code 209 = .ok (.getstatic 88, 3) := by decide +kernel
theorem d1_212 : decode method_3_code 212 = .ok (.areturn, 1) := by decide +kernel
theorem d1_213 : decode method_3_code 213 = .ok (.iload_n 0, 1) := by decide +kernel
theorem d1_214 : decode method_3_code 214 = .ok (.bipush 22, 2) := by decide +kernel
theorem d1_216 : decode method_3_code 216 = .ok (.if_icmp .ne 7, 3) := by decide +kernel
theorem d1_219 : decode method_3_code 219 = .ok (.getstatic 91, 3) := by decide +kernel
theorem d1_222 : decode method_3_code 222 = .ok (.areturn, 1) := by decide +kernel
theorem d1_223 : decode method_3_code 223 = .ok (.iload_n 0, 1) := by decide +kernel
theorem d1_224 : decode method_3_code 224 = .ok (.bipush 23, 2) := by decide +kernel
theorem d1_226 : decode method_3_code 226 = .ok (.if_icmp .ne 7, 3) := by decide +kernel
theorem d1_229 : decode method_3_code 229 = .ok (.getstatic 94, 3) := by decide +kernel
theorem d1_232 : decode method_3_code 232 = .ok (.areturn, 1) := by decide +kernel
theorem d1_233 : decode method_3_code 233 = .ok (.getstatic 97, 3) := by decide +kernel
theorem d1_236 : decode method_3_code 236 = .ok (.areturn, 1) := by decide +kernel
theorem ef_1 (m : MethodId) (x0 : Int32) : entryFrame m #[(.int x0)] 1 = mkF m 0 #[.val (.int x0)] [] := by first | (simp [entryFrame, mkF, argsToLocals, Value.category]; done) | rfl
set_option maxRecDepth 65536 in
set_option maxHeartbeats 40000000 in
theorem rm1 (l : Launch) (Z : State) (a0 : Array Value) (hw : ∀ d ∈ tables_1, d.before a0 Z = true) (ws : List Jvm.Cond) (p1 : Int32) (sf : Nat → Addr) (h0 : Heap) (n0 : Nat) (Z0 : n0 ≤ h0.size) (ST_PRODUCE : Sta Z h0 "com/example/stierlin/stierlin/wire/ApiKey" "PRODUCE" "Lcom/example/stierlin/stierlin/wire/ApiKey;" (.ref (sf 0))) (ST_FETCH : Sta Z h0 "com/example/stierlin/stierlin/wire/ApiKey" "FETCH" "Lcom/example/stierlin/stierlin/wire/ApiKey;" (.ref (sf 1))) (ST_LIST_OFFSETS : Sta Z h0 "com/example/stierlin/stierlin/wire/ApiKey" "LIST_OFFSETS" "Lcom/example/stierlin/stierlin/wire/ApiKey;" (.ref (sf 2))) (ST_METADATA : Sta Z h0 "com/example/stierlin/stierlin/wire/ApiKey" "METADATA" "Lcom/example/stierlin/stierlin/wire/ApiKey;" (.ref (sf 3))) (ST_OFFSET_COMMIT : Sta Z h0 "com/example/stierlin/stierlin/wire/ApiKey" "OFFSET_COMMIT" "Lcom/example/stierlin/stierlin/wire/ApiKey;" (.ref (sf 4))) (ST_OFFSET_FETCH : Sta Z h0 "com/example/stierlin/stierlin/wire/ApiKey" "OFFSET_FETCH" "Lcom/example/stierlin/stierlin/wire/ApiKey;" (.ref (sf 5))) (ST_FIND_COORDINATOR : Sta Z h0 "com/example/stierlin/stierlin/wire/ApiKey" "FIND_COORDINATOR" "Lcom/example/stierlin/stierlin/wire/ApiKey;" (.ref (sf 6))) (ST_JOIN_GROUP : Sta Z h0 "com/example/stierlin/stierlin/wire/ApiKey" "JOIN_GROUP" "Lcom/example/stierlin/stierlin/wire/ApiKey;" (.ref (sf 7))) (ST_HEARTBEAT : Sta Z h0 "com/example/stierlin/stierlin/wire/ApiKey" "HEARTBEAT" "Lcom/example/stierlin/stierlin/wire/ApiKey;" (.ref (sf 8))) (ST_LEAVE_GROUP : Sta Z h0 "com/example/stierlin/stierlin/wire/ApiKey" "LEAVE_GROUP" "Lcom/example/stierlin/stierlin/wire/ApiKey;" (.ref (sf 9))) (ST_SYNC_GROUP : Sta Z h0 "com/example/stierlin/stierlin/wire/ApiKey" "SYNC_GROUP" "Lcom/example/stierlin/stierlin/wire/ApiKey;" (.ref (sf 10))) (ST_DESCRIBE_GROUPS : Sta Z h0 "com/example/stierlin/stierlin/wire/ApiKey" "DESCRIBE_GROUPS" "Lcom/example/stierlin/stierlin/wire/ApiKey;" (.ref (sf 11))) (ST_LIST_GROUPS : Sta Z h0 "com/example/stierlin/stierlin/wire/ApiKey" "LIST_GROUPS" "Lcom/example/stierlin/stierlin/wire/ApiKey;" (.ref (sf 12))) (ST_API_VERSIONS : Sta Z h0 "com/example/stierlin/stierlin/wire/ApiKey" "API_VERSIONS" "Lcom/example/stierlin/stierlin/wire/ApiKey;" (.ref (sf 13))) (ST_CREATE_TOPICS : Sta Z h0 "com/example/stierlin/stierlin/wire/ApiKey" "CREATE_TOPICS" "Lcom/example/stierlin/stierlin/wire/ApiKey;" (.ref (sf 14))) (ST_DELETE_TOPICS : Sta Z h0 "com/example/stierlin/stierlin/wire/ApiKey" "DELETE_TOPICS" "Lcom/example/stierlin/stierlin/wire/ApiKey;" (.ref (sf 15))) (ST_INIT_PRODUCER_ID : Sta Z h0 "com/example/stierlin/stierlin/wire/ApiKey" "INIT_PRODUCER_ID" "Lcom/example/stierlin/stierlin/wire/ApiKey;" (.ref (sf 16))) (ST_DESCRIBE_CONFIGS : Sta Z h0 "com/example/stierlin/stierlin/wire/ApiKey" "DESCRIBE_CONFIGS" "Lcom/example/stierlin/stierlin/wire/ApiKey;" (.ref (sf 17))) (ST_ALTER_CONFIGS : Sta Z h0 "com/example/stierlin/stierlin/wire/ApiKey" "ALTER_CONFIGS" "Lcom/example/stierlin/stierlin/wire/ApiKey;" (.ref (sf 18))) (ST_CREATE_PARTITIONS : Sta Z h0 "com/example/stierlin/stierlin/wire/ApiKey" "CREATE_PARTITIONS" "Lcom/example/stierlin/stierlin/wire/ApiKey;" (.ref (sf 19))) (ST_DELETE_GROUPS : Sta Z h0 "com/example/stierlin/stierlin/wire/ApiKey" "DELETE_GROUPS" "Lcom/example/stierlin/stierlin/wire/ApiKey;" (.ref (sf 20))) (ST_INCREMENTAL_ALTER_CONFIGS : Sta Z h0 "com/example/stierlin/stierlin/wire/ApiKey" "INCREMENTAL_ALTER_CONFIGS" "Lcom/example/stierlin/stierlin/wire/ApiKey;" (.ref (sf 21))) (ST_OFFSET_DELETE : Sta Z h0 "com/example/stierlin/stierlin/wire/ApiKey" "OFFSET_DELETE" "Lcom/example/stierlin/stierlin/wire/ApiKey;" (.ref (sf 22))) (ST_CLUSTER_SYNC : Sta Z h0 "com/example/stierlin/stierlin/wire/ApiKey" "CLUSTER_SYNC" "Lcom/example/stierlin/stierlin/wire/ApiKey;" (.ref (sf 23))) (ST_CHANGE_TOPIC : Sta Z h0 "com/example/stierlin/stierlin/wire/ApiKey" "CHANGE_TOPIC" "Lcom/example/stierlin/stierlin/wire/ApiKey;" (.ref (sf 24))) :
    MetFree l (⟨"com/example/stierlin/stierlin/wire/ApiKeyIsFlexiblePinLaw", "pick", "(I)Lcom/example/stierlin/stierlin/wire/ApiKey;"⟩ : MethodName) (head1 (Jvm.Cond.code (⟨"com/example/stierlin/stierlin/wire/ApiKeyIsFlexiblePinLaw", "pick", "(I)Lcom/example/stierlin/stierlin/wire/ApiKey;"⟩ : MethodName) method_3_code 1 (some (.object "com/example/stierlin/stierlin/wire/ApiKey")) :: ws) ({ frames := 0, cells := 0, slots := 0, locals := 0 } : Room)) (fun a U => a = #[(.int p1)] ∧ Z.Warmed39 U.vm ∧ U.heap = h0) (fun _ _ _ _ _ => True) (fun _ U o U' => ∃ v L, o = .returned v ∧ Qrm1 Z p1 sf h0 n0 v U'.heap L ∧ FrameEnd U o U' L ({ frames := 0, cells := 0, slots := 0, locals := 0 } : Room).cells ({ frames := 0, cells := 0, slots := 0, locals := 0 } : Room).slots) := by
  refine MetFree.of_bodySF (plainFor_of_name pn_0) hisR ?_
  intro p e s m args below meth c s₁ Bd hml0 hP hK
  obtain ⟨rfl, hZ, hh⟩ := hP
  have hx := Bd.exec
  have hby := Bd.bytes
  have hml : c.maxLocals = 1 := hml0
  have hown : s.vm.findClass "com/example/stierlin/stierlin/wire/ApiKeyIsFlexiblePinLaw" = some m.cls := findClass_of_methodNamed Bd.named
  have hnm := (name_of_methodNamed Bd.named Bd.method).1
  have X0 : Stand p l e ({ frames := 0, cells := 0, slots := 0, locals := 0 } : Room) s m #[(.int p1)] below meth c s₁ [] 0 0 := Stand.of_body Bd
  have e0 : s₁.heap = h0 := by rw [← hh, Bd.state]; rfl
  have N0 := Fr.nil n0
  have pre0 : ∀ t, Steps p.tables e below (s₁.setTop (mkF m 0 #[.val (.int p1)] [])) t → Steps p.tables e below (s₁.setTop (entryFrame m #[(.int p1)] 1)) t := fun t k => castTop (ef_1 m p1) k
  have pre1 : ∀ t, Steps p.tables e below (s₁.setTop (mkF m 1 #[.val (.int p1)] [(.int p1)])) t → Steps p.tables e below (s₁.setTop (entryFrame m #[(.int p1)] 1)) t := by
    intro t kt
    refine pre0 t ?_
    show Steps p.tables e below (s₁.setTop (mkF m 0 #[.val (.int p1)] [])) _
    refine XS.iloadN X0.here hx rfl (hb hby d1_0) rfl ?_
    exact kt
  by_cases hc1 : p1 = (0 : Int32)
  · have pre2 : ∀ t, Steps p.tables e below (s₁.setTop (mkF m 4 #[.val (.int p1)] [])) t → Steps p.tables e below (s₁.setTop (entryFrame m #[(.int p1)] 1)) t := by
      intro t kt
      refine pre1 t ?_
      show Steps p.tables e below (s₁.setTop (mkF m 1 #[.val (.int p1)] [(.int p1)])) _
      refine XS.ifNo X0.here hx rfl (hb hby d1_1) rfl ((if0 _ _).trans (teq hc1).2) ?_
      exact kt
    obtain ⟨T3, X3, e3, st3⟩ := getS2 X0 hx hZ hown (host := "") (Or.inl (hw _ (List.mem_of_getElem? (i := 5) rfl))) Via.refl e0 ST_PRODUCE (g := (mkF m 4 #[.val (.int p1)] [])) rfl (hb hby d1_4)
    have pre3 : ∀ t, Steps p.tables e below (T3.setTop (mkF m 7 #[.val (.int p1)] [(.ref (sf 0))])) t → Steps p.tables e below (s₁.setTop (entryFrame m #[(.int p1)] 1)) t := fun t kt => pre2 t (st3 _ kt)
    have hres : (sf 0) = (sf (own_idx p1)) := by simp [own_idx, hc1]
    obtain ⟨fs, hr, hrun, hended, hW, hsame⟩ := X3.leave (v := some (.ref (sf 0))) (fun h => by rw [Bd.returns] at h; cases h)
    refine ⟨_, _, pre3 _ ?_, hrun, hended, _, _, rfl, ?_, ⟨_, rfl⟩, hW, hsame.mono (by decide) (by decide)⟩
    · show Steps p.tables e below (T3.setTop (mkF m 7 #[.val (.int p1)] [(.ref (sf 0))])) _
      jvm_step X3.here [X3.here.top, hx, (hb hby d1_7), X3.method', Bd.returns, Value.isRef, FieldType.isReference]
      first | (intro acts; rw [hr _ acts rfl rfl rfl]) | rw [hr _ _ rfl rfl rfl]
      exact Steps.refl _
    · show Qrm1 Z p1 sf h0 n0 _ T3.heap _
      rw [e3]
      exact ⟨congrArg some (congrArg Value.ref hres), N0, rfl⟩
  · have pre4 : ∀ t, Steps p.tables e below (s₁.setTop (mkF m 8 #[.val (.int p1)] [])) t → Steps p.tables e below (s₁.setTop (entryFrame m #[(.int p1)] 1)) t := by
      intro t kt
      refine pre1 t ?_
      show Steps p.tables e below (s₁.setTop (mkF m 1 #[.val (.int p1)] [(.int p1)])) _
      refine XS.ifYes X0.here hx rfl (pc0 := 1) (pc' := 8) rfl (hb hby d1_1) rfl ((if0 _ _).trans (feq hc1).2) (by decide) (by decide) ?_
      exact kt
    have pre5 : ∀ t, Steps p.tables e below (s₁.setTop (mkF m 10 #[.val (.int p1)] [(.int (1 : Int32)), (.int p1)])) t → Steps p.tables e below (s₁.setTop (entryFrame m #[(.int p1)] 1)) t := by
      intro t kt
      refine pre4 t ?_
      show Steps p.tables e below (s₁.setTop (mkF m 8 #[.val (.int p1)] [])) _
      refine XS.iloadN X0.here hx rfl (hb hby d1_8) rfl ?_
      show Steps p.tables e below (s₁.setTop (mkF m 9 #[.val (.int p1)] [(.int p1)])) _
      refine XS.iconst X0.here hx rfl (hb hby d1_9) ?_
      exact kt
    by_cases hc10 : p1 = (1 : Int32)
    · have pre6 : ∀ t, Steps p.tables e below (s₁.setTop (mkF m 13 #[.val (.int p1)] [])) t → Steps p.tables e below (s₁.setTop (entryFrame m #[(.int p1)] 1)) t := by
        intro t kt
        refine pre5 t ?_
        show Steps p.tables e below (s₁.setTop (mkF m 10 #[.val (.int p1)] [(.int (1 : Int32)), (.int p1)])) _
        refine XS.icmpNo X0.here hx rfl (hb hby d1_10) rfl (teq hc10).2 ?_
        exact kt
      obtain ⟨T7, X7, e7, st7⟩ := getS2 X0 hx hZ hown (host := "") (Or.inl (hw _ (List.mem_of_getElem? (i := 40) rfl))) Via.refl e0 ST_FETCH (g := (mkF m 13 #[.val (.int p1)] [])) rfl (hb hby d1_13)
      have pre7 : ∀ t, Steps p.tables e below (T7.setTop (mkF m 16 #[.val (.int p1)] [(.ref (sf 1))])) t → Steps p.tables e below (s₁.setTop (entryFrame m #[(.int p1)] 1)) t := fun t kt => pre6 t (st7 _ kt)
      have hres : (sf 1) = (sf (own_idx p1)) := by simp [own_idx, hc1, hc10]
      obtain ⟨fs, hr, hrun, hended, hW, hsame⟩ := X7.leave (v := some (.ref (sf 1))) (fun h => by rw [Bd.returns] at h; cases h)
      refine ⟨_, _, pre7 _ ?_, hrun, hended, _, _, rfl, ?_, ⟨_, rfl⟩, hW, hsame.mono (by decide) (by decide)⟩
      · show Steps p.tables e below (T7.setTop (mkF m 16 #[.val (.int p1)] [(.ref (sf 1))])) _
        jvm_step X7.here [X7.here.top, hx, (hb hby d1_16), X7.method', Bd.returns, Value.isRef, FieldType.isReference]
        first | (intro acts; rw [hr _ acts rfl rfl rfl]) | rw [hr _ _ rfl rfl rfl]
        exact Steps.refl _
      · show Qrm1 Z p1 sf h0 n0 _ T7.heap _
        rw [e7]
        exact ⟨congrArg some (congrArg Value.ref hres), N0, rfl⟩
    · have pre8 : ∀ t, Steps p.tables e below (s₁.setTop (mkF m 17 #[.val (.int p1)] [])) t → Steps p.tables e below (s₁.setTop (entryFrame m #[(.int p1)] 1)) t := by
        intro t kt
        refine pre5 t ?_
        show Steps p.tables e below (s₁.setTop (mkF m 10 #[.val (.int p1)] [(.int (1 : Int32)), (.int p1)])) _
        refine XS.icmpYes X0.here hx rfl (pc0 := 10) (pc' := 17) rfl (hb hby d1_10) rfl (feq hc10).2 (by decide) (by decide) ?_
        exact kt
      have pre9 : ∀ t, Steps p.tables e below (s₁.setTop (mkF m 19 #[.val (.int p1)] [(.int (2 : Int32)), (.int p1)])) t → Steps p.tables e below (s₁.setTop (entryFrame m #[(.int p1)] 1)) t := by
        intro t kt
        refine pre8 t ?_
        show Steps p.tables e below (s₁.setTop (mkF m 17 #[.val (.int p1)] [])) _
        refine XS.iloadN X0.here hx rfl (hb hby d1_17) rfl ?_
        show Steps p.tables e below (s₁.setTop (mkF m 18 #[.val (.int p1)] [(.int p1)])) _
        refine XS.iconst X0.here hx rfl (hb hby d1_18) ?_
        exact kt
      by_cases hc19 : p1 = (2 : Int32)
      · have pre10 : ∀ t, Steps p.tables e below (s₁.setTop (mkF m 22 #[.val (.int p1)] [])) t → Steps p.tables e below (s₁.setTop (entryFrame m #[(.int p1)] 1)) t := by
          intro t kt
          refine pre9 t ?_
          show Steps p.tables e below (s₁.setTop (mkF m 19 #[.val (.int p1)] [(.int (2 : Int32)), (.int p1)])) _
          refine XS.icmpNo X0.here hx rfl (hb hby d1_19) rfl (teq hc19).2 ?_
          exact kt
        obtain ⟨T11, X11, e11, st11⟩ := getS2 X0 hx hZ hown (host := "") (Or.inl (hw _ (List.mem_of_getElem? (i := 42) rfl))) Via.refl e0 ST_LIST_OFFSETS (g := (mkF m 22 #[.val (.int p1)] [])) rfl (hb hby d1_22)
        have pre11 : ∀ t, Steps p.tables e below (T11.setTop (mkF m 25 #[.val (.int p1)] [(.ref (sf 2))])) t → Steps p.tables e below (s₁.setTop (entryFrame m #[(.int p1)] 1)) t := fun t kt => pre10 t (st11 _ kt)
        have hres : (sf 2) = (sf (own_idx p1)) := by simp [own_idx, hc1, hc10, hc19]
        obtain ⟨fs, hr, hrun, hended, hW, hsame⟩ := X11.leave (v := some (.ref (sf 2))) (fun h => by rw [Bd.returns] at h; cases h)
        refine ⟨_, _, pre11 _ ?_, hrun, hended, _, _, rfl, ?_, ⟨_, rfl⟩, hW, hsame.mono (by decide) (by decide)⟩
        · show Steps p.tables e below (T11.setTop (mkF m 25 #[.val (.int p1)] [(.ref (sf 2))])) _
          jvm_step X11.here [X11.here.top, hx, (hb hby d1_25), X11.method', Bd.returns, Value.isRef, FieldType.isReference]
          first | (intro acts; rw [hr _ acts rfl rfl rfl]) | rw [hr _ _ rfl rfl rfl]
          exact Steps.refl _
        · show Qrm1 Z p1 sf h0 n0 _ T11.heap _
          rw [e11]
          exact ⟨congrArg some (congrArg Value.ref hres), N0, rfl⟩
      · have pre12 : ∀ t, Steps p.tables e below (s₁.setTop (mkF m 26 #[.val (.int p1)] [])) t → Steps p.tables e below (s₁.setTop (entryFrame m #[(.int p1)] 1)) t := by
          intro t kt
          refine pre9 t ?_
          show Steps p.tables e below (s₁.setTop (mkF m 19 #[.val (.int p1)] [(.int (2 : Int32)), (.int p1)])) _
          refine XS.icmpYes X0.here hx rfl (pc0 := 19) (pc' := 26) rfl (hb hby d1_19) rfl (feq hc19).2 (by decide) (by decide) ?_
          exact kt
        have pre13 : ∀ t, Steps p.tables e below (s₁.setTop (mkF m 28 #[.val (.int p1)] [(.int (3 : Int32)), (.int p1)])) t → Steps p.tables e below (s₁.setTop (entryFrame m #[(.int p1)] 1)) t := by
          intro t kt
          refine pre12 t ?_
          show Steps p.tables e below (s₁.setTop (mkF m 26 #[.val (.int p1)] [])) _
          refine XS.iloadN X0.here hx rfl (hb hby d1_26) rfl ?_
          show Steps p.tables e below (s₁.setTop (mkF m 27 #[.val (.int p1)] [(.int p1)])) _
          refine XS.iconst X0.here hx rfl (hb hby d1_27) ?_
          exact kt
        by_cases hc28 : p1 = (3 : Int32)
        · have pre14 : ∀ t, Steps p.tables e below (s₁.setTop (mkF m 31 #[.val (.int p1)] [])) t → Steps p.tables e below (s₁.setTop (entryFrame m #[(.int p1)] 1)) t := by
            intro t kt
            refine pre13 t ?_
            show Steps p.tables e below (s₁.setTop (mkF m 28 #[.val (.int p1)] [(.int (3 : Int32)), (.int p1)])) _
            refine XS.icmpNo X0.here hx rfl (hb hby d1_28) rfl (teq hc28).2 ?_
            exact kt
          obtain ⟨T15, X15, e15, st15⟩ := getS2 X0 hx hZ hown (host := "") (Or.inl (hw _ (List.mem_of_getElem? (i := 30) rfl))) Via.refl e0 ST_METADATA (g := (mkF m 31 #[.val (.int p1)] [])) rfl (hb hby d1_31)
          have pre15 : ∀ t, Steps p.tables e below (T15.setTop (mkF m 34 #[.val (.int p1)] [(.ref (sf 3))])) t → Steps p.tables e below (s₁.setTop (entryFrame m #[(.int p1)] 1)) t := fun t kt => pre14 t (st15 _ kt)
          have hres : (sf 3) = (sf (own_idx p1)) := by simp [own_idx, hc1, hc10, hc19, hc28]
          obtain ⟨fs, hr, hrun, hended, hW, hsame⟩ := X15.leave (v := some (.ref (sf 3))) (fun h => by rw [Bd.returns] at h; cases h)
          refine ⟨_, _, pre15 _ ?_, hrun, hended, _, _, rfl, ?_, ⟨_, rfl⟩, hW, hsame.mono (by decide) (by decide)⟩
          · show Steps p.tables e below (T15.setTop (mkF m 34 #[.val (.int p1)] [(.ref (sf 3))])) _
            jvm_step X15.here [X15.here.top, hx, (hb hby d1_34), X15.method', Bd.returns, Value.isRef, FieldType.isReference]
            first | (intro acts; rw [hr _ acts rfl rfl rfl]) | rw [hr _ _ rfl rfl rfl]
            exact Steps.refl _
          · show Qrm1 Z p1 sf h0 n0 _ T15.heap _
            rw [e15]
            exact ⟨congrArg some (congrArg Value.ref hres), N0, rfl⟩
        · have pre16 : ∀ t, Steps p.tables e below (s₁.setTop (mkF m 35 #[.val (.int p1)] [])) t → Steps p.tables e below (s₁.setTop (entryFrame m #[(.int p1)] 1)) t := by
            intro t kt
            refine pre13 t ?_
            show Steps p.tables e below (s₁.setTop (mkF m 28 #[.val (.int p1)] [(.int (3 : Int32)), (.int p1)])) _
            refine XS.icmpYes X0.here hx rfl (pc0 := 28) (pc' := 35) rfl (hb hby d1_28) rfl (feq hc28).2 (by decide) (by decide) ?_
            exact kt
          have pre17 : ∀ t, Steps p.tables e below (s₁.setTop (mkF m 37 #[.val (.int p1)] [(.int (4 : Int32)), (.int p1)])) t → Steps p.tables e below (s₁.setTop (entryFrame m #[(.int p1)] 1)) t := by
            intro t kt
            refine pre16 t ?_
            show Steps p.tables e below (s₁.setTop (mkF m 35 #[.val (.int p1)] [])) _
            refine XS.iloadN X0.here hx rfl (hb hby d1_35) rfl ?_
            show Steps p.tables e below (s₁.setTop (mkF m 36 #[.val (.int p1)] [(.int p1)])) _
            refine XS.iconst X0.here hx rfl (hb hby d1_36) ?_
            exact kt
          by_cases hc37 : p1 = (4 : Int32)
          · have pre18 : ∀ t, Steps p.tables e below (s₁.setTop (mkF m 40 #[.val (.int p1)] [])) t → Steps p.tables e below (s₁.setTop (entryFrame m #[(.int p1)] 1)) t := by
              intro t kt
              refine pre17 t ?_
              show Steps p.tables e below (s₁.setTop (mkF m 37 #[.val (.int p1)] [(.int (4 : Int32)), (.int p1)])) _
              refine XS.icmpNo X0.here hx rfl (hb hby d1_37) rfl (teq hc37).2 ?_
              exact kt
            obtain ⟨T19, X19, e19, st19⟩ := getS2 X0 hx hZ hown (host := "") (Or.inl (hw _ (List.mem_of_getElem? (i := 24) rfl))) Via.refl e0 ST_OFFSET_COMMIT (g := (mkF m 40 #[.val (.int p1)] [])) rfl (hb hby d1_40)
            have pre19 : ∀ t, Steps p.tables e below (T19.setTop (mkF m 43 #[.val (.int p1)] [(.ref (sf 4))])) t → Steps p.tables e below (s₁.setTop (entryFrame m #[(.int p1)] 1)) t := fun t kt => pre18 t (st19 _ kt)
            have hres : (sf 4) = (sf (own_idx p1)) := by simp [own_idx, hc1, hc10, hc19, hc28, hc37]
            obtain ⟨fs, hr, hrun, hended, hW, hsame⟩ := X19.leave (v := some (.ref (sf 4))) (fun h => by rw [Bd.returns] at h; cases h)
            refine ⟨_, _, pre19 _ ?_, hrun, hended, _, _, rfl, ?_, ⟨_, rfl⟩, hW, hsame.mono (by decide) (by decide)⟩
            · show Steps p.tables e below (T19.setTop (mkF m 43 #[.val (.int p1)] [(.ref (sf 4))])) _
              jvm_step X19.here [X19.here.top, hx, (hb hby d1_43), X19.method', Bd.returns, Value.isRef, FieldType.isReference]
              first | (intro acts; rw [hr _ acts rfl rfl rfl]) | rw [hr _ _ rfl rfl rfl]
              exact Steps.refl _
            · show Qrm1 Z p1 sf h0 n0 _ T19.heap _
              rw [e19]
              exact ⟨congrArg some (congrArg Value.ref hres), N0, rfl⟩
          · have pre20 : ∀ t, Steps p.tables e below (s₁.setTop (mkF m 44 #[.val (.int p1)] [])) t → Steps p.tables e below (s₁.setTop (entryFrame m #[(.int p1)] 1)) t := by
              intro t kt
              refine pre17 t ?_
              show Steps p.tables e below (s₁.setTop (mkF m 37 #[.val (.int p1)] [(.int (4 : Int32)), (.int p1)])) _
              refine XS.icmpYes X0.here hx rfl (pc0 := 37) (pc' := 44) rfl (hb hby d1_37) rfl (feq hc37).2 (by decide) (by decide) ?_
              exact kt
            have pre21 : ∀ t, Steps p.tables e below (s₁.setTop (mkF m 46 #[.val (.int p1)] [(.int (5 : Int32)), (.int p1)])) t → Steps p.tables e below (s₁.setTop (entryFrame m #[(.int p1)] 1)) t := by
              intro t kt
              refine pre20 t ?_
              show Steps p.tables e below (s₁.setTop (mkF m 44 #[.val (.int p1)] [])) _
              refine XS.iloadN X0.here hx rfl (hb hby d1_44) rfl ?_
              show Steps p.tables e below (s₁.setTop (mkF m 45 #[.val (.int p1)] [(.int p1)])) _
              refine XS.iconst X0.here hx rfl (hb hby d1_45) ?_
              exact kt
            by_cases hc46 : p1 = (5 : Int32)
            · have pre22 : ∀ t, Steps p.tables e below (s₁.setTop (mkF m 49 #[.val (.int p1)] [])) t → Steps p.tables e below (s₁.setTop (entryFrame m #[(.int p1)] 1)) t := by
                intro t kt
                refine pre21 t ?_
                show Steps p.tables e below (s₁.setTop (mkF m 46 #[.val (.int p1)] [(.int (5 : Int32)), (.int p1)])) _
                refine XS.icmpNo X0.here hx rfl (hb hby d1_46) rfl (teq hc46).2 ?_
                exact kt
              obtain ⟨T23, X23, e23, st23⟩ := getS2 X0 hx hZ hown (host := "") (Or.inl (hw _ (List.mem_of_getElem? (i := 54) rfl))) Via.refl e0 ST_OFFSET_FETCH (g := (mkF m 49 #[.val (.int p1)] [])) rfl (hb hby d1_49)
              have pre23 : ∀ t, Steps p.tables e below (T23.setTop (mkF m 52 #[.val (.int p1)] [(.ref (sf 5))])) t → Steps p.tables e below (s₁.setTop (entryFrame m #[(.int p1)] 1)) t := fun t kt => pre22 t (st23 _ kt)
              have hres : (sf 5) = (sf (own_idx p1)) := by simp [own_idx, hc1, hc10, hc19, hc28, hc37, hc46]
              obtain ⟨fs, hr, hrun, hended, hW, hsame⟩ := X23.leave (v := some (.ref (sf 5))) (fun h => by rw [Bd.returns] at h; cases h)
              refine ⟨_, _, pre23 _ ?_, hrun, hended, _, _, rfl, ?_, ⟨_, rfl⟩, hW, hsame.mono (by decide) (by decide)⟩
              · show Steps p.tables e below (T23.setTop (mkF m 52 #[.val (.int p1)] [(.ref (sf 5))])) _
                jvm_step X23.here [X23.here.top, hx, (hb hby d1_52), X23.method', Bd.returns, Value.isRef, FieldType.isReference]
                first | (intro acts; rw [hr _ acts rfl rfl rfl]) | rw [hr _ _ rfl rfl rfl]
                exact Steps.refl _
              · show Qrm1 Z p1 sf h0 n0 _ T23.heap _
                rw [e23]
                exact ⟨congrArg some (congrArg Value.ref hres), N0, rfl⟩
            · have pre24 : ∀ t, Steps p.tables e below (s₁.setTop (mkF m 53 #[.val (.int p1)] [])) t → Steps p.tables e below (s₁.setTop (entryFrame m #[(.int p1)] 1)) t := by
                intro t kt
                refine pre21 t ?_
                show Steps p.tables e below (s₁.setTop (mkF m 46 #[.val (.int p1)] [(.int (5 : Int32)), (.int p1)])) _
                refine XS.icmpYes X0.here hx rfl (pc0 := 46) (pc' := 53) rfl (hb hby d1_46) rfl (feq hc46).2 (by decide) (by decide) ?_
                exact kt
              have pre25 : ∀ t, Steps p.tables e below (s₁.setTop (mkF m 56 #[.val (.int p1)] [(.int (6 : Int32)), (.int p1)])) t → Steps p.tables e below (s₁.setTop (entryFrame m #[(.int p1)] 1)) t := by
                intro t kt
                refine pre24 t ?_
                show Steps p.tables e below (s₁.setTop (mkF m 53 #[.val (.int p1)] [])) _
                refine XS.iloadN X0.here hx rfl (hb hby d1_53) rfl ?_
                show Steps p.tables e below (s₁.setTop (mkF m 54 #[.val (.int p1)] [(.int p1)])) _
                refine XS.bipush X0.here hx rfl (hb hby d1_54) ?_
                exact kt
              by_cases hc56 : p1 = (6 : Int32)
              · have pre26 : ∀ t, Steps p.tables e below (s₁.setTop (mkF m 59 #[.val (.int p1)] [])) t → Steps p.tables e below (s₁.setTop (entryFrame m #[(.int p1)] 1)) t := by
                  intro t kt
                  refine pre25 t ?_
                  show Steps p.tables e below (s₁.setTop (mkF m 56 #[.val (.int p1)] [(.int (6 : Int32)), (.int p1)])) _
                  refine XS.icmpNo X0.here hx rfl (hb hby d1_56) rfl (teq hc56).2 ?_
                  exact kt
                obtain ⟨T27, X27, e27, st27⟩ := getS2 X0 hx hZ hown (host := "") (Or.inl (hw _ (List.mem_of_getElem? (i := 22) rfl))) Via.refl e0 ST_FIND_COORDINATOR (g := (mkF m 59 #[.val (.int p1)] [])) rfl (hb hby d1_59)
                have pre27 : ∀ t, Steps p.tables e below (T27.setTop (mkF m 62 #[.val (.int p1)] [(.ref (sf 6))])) t → Steps p.tables e below (s₁.setTop (entryFrame m #[(.int p1)] 1)) t := fun t kt => pre26 t (st27 _ kt)
                have hres : (sf 6) = (sf (own_idx p1)) := by simp [own_idx, hc1, hc10, hc19, hc28, hc37, hc46, hc56]
                obtain ⟨fs, hr, hrun, hended, hW, hsame⟩ := X27.leave (v := some (.ref (sf 6))) (fun h => by rw [Bd.returns] at h; cases h)
                refine ⟨_, _, pre27 _ ?_, hrun, hended, _, _, rfl, ?_, ⟨_, rfl⟩, hW, hsame.mono (by decide) (by decide)⟩
                · show Steps p.tables e below (T27.setTop (mkF m 62 #[.val (.int p1)] [(.ref (sf 6))])) _
                  jvm_step X27.here [X27.here.top, hx, (hb hby d1_62), X27.method', Bd.returns, Value.isRef, FieldType.isReference]
                  first | (intro acts; rw [hr _ acts rfl rfl rfl]) | rw [hr _ _ rfl rfl rfl]
                  exact Steps.refl _
                · show Qrm1 Z p1 sf h0 n0 _ T27.heap _
                  rw [e27]
                  exact ⟨congrArg some (congrArg Value.ref hres), N0, rfl⟩
              · have pre28 : ∀ t, Steps p.tables e below (s₁.setTop (mkF m 63 #[.val (.int p1)] [])) t → Steps p.tables e below (s₁.setTop (entryFrame m #[(.int p1)] 1)) t := by
                  intro t kt
                  refine pre25 t ?_
                  show Steps p.tables e below (s₁.setTop (mkF m 56 #[.val (.int p1)] [(.int (6 : Int32)), (.int p1)])) _
                  refine XS.icmpYes X0.here hx rfl (pc0 := 56) (pc' := 63) rfl (hb hby d1_56) rfl (feq hc56).2 (by decide) (by decide) ?_
                  exact kt
                have pre29 : ∀ t, Steps p.tables e below (s₁.setTop (mkF m 66 #[.val (.int p1)] [(.int (7 : Int32)), (.int p1)])) t → Steps p.tables e below (s₁.setTop (entryFrame m #[(.int p1)] 1)) t := by
                  intro t kt
                  refine pre28 t ?_
                  show Steps p.tables e below (s₁.setTop (mkF m 63 #[.val (.int p1)] [])) _
                  refine XS.iloadN X0.here hx rfl (hb hby d1_63) rfl ?_
                  show Steps p.tables e below (s₁.setTop (mkF m 64 #[.val (.int p1)] [(.int p1)])) _
                  refine XS.bipush X0.here hx rfl (hb hby d1_64) ?_
                  exact kt
                by_cases hc66 : p1 = (7 : Int32)
                · have pre30 : ∀ t, Steps p.tables e below (s₁.setTop (mkF m 69 #[.val (.int p1)] [])) t → Steps p.tables e below (s₁.setTop (entryFrame m #[(.int p1)] 1)) t := by
                    intro t kt
                    refine pre29 t ?_
                    show Steps p.tables e below (s₁.setTop (mkF m 66 #[.val (.int p1)] [(.int (7 : Int32)), (.int p1)])) _
                    refine XS.icmpNo X0.here hx rfl (hb hby d1_66) rfl (teq hc66).2 ?_
                    exact kt
                  obtain ⟨T31, X31, e31, st31⟩ := getS2 X0 hx hZ hown (host := "") (Or.inl (hw _ (List.mem_of_getElem? (i := 58) rfl))) Via.refl e0 ST_JOIN_GROUP (g := (mkF m 69 #[.val (.int p1)] [])) rfl (hb hby d1_69)
                  have pre31 : ∀ t, Steps p.tables e below (T31.setTop (mkF m 72 #[.val (.int p1)] [(.ref (sf 7))])) t → Steps p.tables e below (s₁.setTop (entryFrame m #[(.int p1)] 1)) t := fun t kt => pre30 t (st31 _ kt)
                  have hres : (sf 7) = (sf (own_idx p1)) := by simp [own_idx, hc1, hc10, hc19, hc28, hc37, hc46, hc56, hc66]
                  obtain ⟨fs, hr, hrun, hended, hW, hsame⟩ := X31.leave (v := some (.ref (sf 7))) (fun h => by rw [Bd.returns] at h; cases h)
                  refine ⟨_, _, pre31 _ ?_, hrun, hended, _, _, rfl, ?_, ⟨_, rfl⟩, hW, hsame.mono (by decide) (by decide)⟩
                  · show Steps p.tables e below (T31.setTop (mkF m 72 #[.val (.int p1)] [(.ref (sf 7))])) _
                    jvm_step X31.here [X31.here.top, hx, (hb hby d1_72), X31.method', Bd.returns, Value.isRef, FieldType.isReference]
                    first | (intro acts; rw [hr _ acts rfl rfl rfl]) | rw [hr _ _ rfl rfl rfl]
                    exact Steps.refl _
                  · show Qrm1 Z p1 sf h0 n0 _ T31.heap _
                    rw [e31]
                    exact ⟨congrArg some (congrArg Value.ref hres), N0, rfl⟩
                · have pre32 : ∀ t, Steps p.tables e below (s₁.setTop (mkF m 73 #[.val (.int p1)] [])) t → Steps p.tables e below (s₁.setTop (entryFrame m #[(.int p1)] 1)) t := by
                    intro t kt
                    refine pre29 t ?_
                    show Steps p.tables e below (s₁.setTop (mkF m 66 #[.val (.int p1)] [(.int (7 : Int32)), (.int p1)])) _
                    refine XS.icmpYes X0.here hx rfl (pc0 := 66) (pc' := 73) rfl (hb hby d1_66) rfl (feq hc66).2 (by decide) (by decide) ?_
                    exact kt
                  have pre33 : ∀ t, Steps p.tables e below (s₁.setTop (mkF m 76 #[.val (.int p1)] [(.int (8 : Int32)), (.int p1)])) t → Steps p.tables e below (s₁.setTop (entryFrame m #[(.int p1)] 1)) t := by
                    intro t kt
                    refine pre32 t ?_
                    show Steps p.tables e below (s₁.setTop (mkF m 73 #[.val (.int p1)] [])) _
                    refine XS.iloadN X0.here hx rfl (hb hby d1_73) rfl ?_
                    show Steps p.tables e below (s₁.setTop (mkF m 74 #[.val (.int p1)] [(.int p1)])) _
                    refine XS.bipush X0.here hx rfl (hb hby d1_74) ?_
                    exact kt
                  by_cases hc76 : p1 = (8 : Int32)
                  · have pre34 : ∀ t, Steps p.tables e below (s₁.setTop (mkF m 79 #[.val (.int p1)] [])) t → Steps p.tables e below (s₁.setTop (entryFrame m #[(.int p1)] 1)) t := by
                      intro t kt
                      refine pre33 t ?_
                      show Steps p.tables e below (s₁.setTop (mkF m 76 #[.val (.int p1)] [(.int (8 : Int32)), (.int p1)])) _
                      refine XS.icmpNo X0.here hx rfl (hb hby d1_76) rfl (teq hc76).2 ?_
                      exact kt
                    obtain ⟨T35, X35, e35, st35⟩ := getS2 X0 hx hZ hown (host := "") (Or.inl (hw _ (List.mem_of_getElem? (i := 20) rfl))) Via.refl e0 ST_HEARTBEAT (g := (mkF m 79 #[.val (.int p1)] [])) rfl (hb hby d1_79)
                    have pre35 : ∀ t, Steps p.tables e below (T35.setTop (mkF m 82 #[.val (.int p1)] [(.ref (sf 8))])) t → Steps p.tables e below (s₁.setTop (entryFrame m #[(.int p1)] 1)) t := fun t kt => pre34 t (st35 _ kt)
                    have hres : (sf 8) = (sf (own_idx p1)) := by simp [own_idx, hc1, hc10, hc19, hc28, hc37, hc46, hc56, hc66, hc76]
                    obtain ⟨fs, hr, hrun, hended, hW, hsame⟩ := X35.leave (v := some (.ref (sf 8))) (fun h => by rw [Bd.returns] at h; cases h)
                    refine ⟨_, _, pre35 _ ?_, hrun, hended, _, _, rfl, ?_, ⟨_, rfl⟩, hW, hsame.mono (by decide) (by decide)⟩
                    · show Steps p.tables e below (T35.setTop (mkF m 82 #[.val (.int p1)] [(.ref (sf 8))])) _
                      jvm_step X35.here [X35.here.top, hx, (hb hby d1_82), X35.method', Bd.returns, Value.isRef, FieldType.isReference]
                      first | (intro acts; rw [hr _ acts rfl rfl rfl]) | rw [hr _ _ rfl rfl rfl]
                      exact Steps.refl _
                    · show Qrm1 Z p1 sf h0 n0 _ T35.heap _
                      rw [e35]
                      exact ⟨congrArg some (congrArg Value.ref hres), N0, rfl⟩
                  · have pre36 : ∀ t, Steps p.tables e below (s₁.setTop (mkF m 83 #[.val (.int p1)] [])) t → Steps p.tables e below (s₁.setTop (entryFrame m #[(.int p1)] 1)) t := by
                      intro t kt
                      refine pre33 t ?_
                      show Steps p.tables e below (s₁.setTop (mkF m 76 #[.val (.int p1)] [(.int (8 : Int32)), (.int p1)])) _
                      refine XS.icmpYes X0.here hx rfl (pc0 := 76) (pc' := 83) rfl (hb hby d1_76) rfl (feq hc76).2 (by decide) (by decide) ?_
                      exact kt
                    have pre37 : ∀ t, Steps p.tables e below (s₁.setTop (mkF m 86 #[.val (.int p1)] [(.int (9 : Int32)), (.int p1)])) t → Steps p.tables e below (s₁.setTop (entryFrame m #[(.int p1)] 1)) t := by
                      intro t kt
                      refine pre36 t ?_
                      show Steps p.tables e below (s₁.setTop (mkF m 83 #[.val (.int p1)] [])) _
                      refine XS.iloadN X0.here hx rfl (hb hby d1_83) rfl ?_
                      show Steps p.tables e below (s₁.setTop (mkF m 84 #[.val (.int p1)] [(.int p1)])) _
                      refine XS.bipush X0.here hx rfl (hb hby d1_84) ?_
                      exact kt
                    by_cases hc86 : p1 = (9 : Int32)
                    · have pre38 : ∀ t, Steps p.tables e below (s₁.setTop (mkF m 89 #[.val (.int p1)] [])) t → Steps p.tables e below (s₁.setTop (entryFrame m #[(.int p1)] 1)) t := by
                        intro t kt
                        refine pre37 t ?_
                        show Steps p.tables e below (s₁.setTop (mkF m 86 #[.val (.int p1)] [(.int (9 : Int32)), (.int p1)])) _
                        refine XS.icmpNo X0.here hx rfl (hb hby d1_86) rfl (teq hc86).2 ?_
                        exact kt
                      obtain ⟨T39, X39, e39, st39⟩ := getS2 X0 hx hZ hown (host := "") (Or.inl (hw _ (List.mem_of_getElem? (i := 32) rfl))) Via.refl e0 ST_LEAVE_GROUP (g := (mkF m 89 #[.val (.int p1)] [])) rfl (hb hby d1_89)
                      have pre39 : ∀ t, Steps p.tables e below (T39.setTop (mkF m 92 #[.val (.int p1)] [(.ref (sf 9))])) t → Steps p.tables e below (s₁.setTop (entryFrame m #[(.int p1)] 1)) t := fun t kt => pre38 t (st39 _ kt)
                      have hres : (sf 9) = (sf (own_idx p1)) := by simp [own_idx, hc1, hc10, hc19, hc28, hc37, hc46, hc56, hc66, hc76, hc86]
                      obtain ⟨fs, hr, hrun, hended, hW, hsame⟩ := X39.leave (v := some (.ref (sf 9))) (fun h => by rw [Bd.returns] at h; cases h)
                      refine ⟨_, _, pre39 _ ?_, hrun, hended, _, _, rfl, ?_, ⟨_, rfl⟩, hW, hsame.mono (by decide) (by decide)⟩
                      · show Steps p.tables e below (T39.setTop (mkF m 92 #[.val (.int p1)] [(.ref (sf 9))])) _
                        jvm_step X39.here [X39.here.top, hx, (hb hby d1_92), X39.method', Bd.returns, Value.isRef, FieldType.isReference]
                        first | (intro acts; rw [hr _ acts rfl rfl rfl]) | rw [hr _ _ rfl rfl rfl]
                        exact Steps.refl _
                      · show Qrm1 Z p1 sf h0 n0 _ T39.heap _
                        rw [e39]
                        exact ⟨congrArg some (congrArg Value.ref hres), N0, rfl⟩
                    · have pre40 : ∀ t, Steps p.tables e below (s₁.setTop (mkF m 93 #[.val (.int p1)] [])) t → Steps p.tables e below (s₁.setTop (entryFrame m #[(.int p1)] 1)) t := by
                        intro t kt
                        refine pre37 t ?_
                        show Steps p.tables e below (s₁.setTop (mkF m 86 #[.val (.int p1)] [(.int (9 : Int32)), (.int p1)])) _
                        refine XS.icmpYes X0.here hx rfl (pc0 := 86) (pc' := 93) rfl (hb hby d1_86) rfl (feq hc86).2 (by decide) (by decide) ?_
                        exact kt
                      have pre41 : ∀ t, Steps p.tables e below (s₁.setTop (mkF m 96 #[.val (.int p1)] [(.int (10 : Int32)), (.int p1)])) t → Steps p.tables e below (s₁.setTop (entryFrame m #[(.int p1)] 1)) t := by
                        intro t kt
                        refine pre40 t ?_
                        show Steps p.tables e below (s₁.setTop (mkF m 93 #[.val (.int p1)] [])) _
                        refine XS.iloadN X0.here hx rfl (hb hby d1_93) rfl ?_
                        show Steps p.tables e below (s₁.setTop (mkF m 94 #[.val (.int p1)] [(.int p1)])) _
                        refine XS.bipush X0.here hx rfl (hb hby d1_94) ?_
                        exact kt
                      by_cases hc96 : p1 = (10 : Int32)
                      · have pre42 : ∀ t, Steps p.tables e below (s₁.setTop (mkF m 99 #[.val (.int p1)] [])) t → Steps p.tables e below (s₁.setTop (entryFrame m #[(.int p1)] 1)) t := by
                          intro t kt
                          refine pre41 t ?_
                          show Steps p.tables e below (s₁.setTop (mkF m 96 #[.val (.int p1)] [(.int (10 : Int32)), (.int p1)])) _
                          refine XS.icmpNo X0.here hx rfl (hb hby d1_96) rfl (teq hc96).2 ?_
                          exact kt
                        obtain ⟨T43, X43, e43, st43⟩ := getS2 X0 hx hZ hown (host := "") (Or.inl (hw _ (List.mem_of_getElem? (i := 50) rfl))) Via.refl e0 ST_SYNC_GROUP (g := (mkF m 99 #[.val (.int p1)] [])) rfl (hb hby d1_99)
                        have pre43 : ∀ t, Steps p.tables e below (T43.setTop (mkF m 102 #[.val (.int p1)] [(.ref (sf 10))])) t → Steps p.tables e below (s₁.setTop (entryFrame m #[(.int p1)] 1)) t := fun t kt => pre42 t (st43 _ kt)
                        have hres : (sf 10) = (sf (own_idx p1)) := by simp [own_idx, hc1, hc10, hc19, hc28, hc37, hc46, hc56, hc66, hc76, hc86, hc96]
                        obtain ⟨fs, hr, hrun, hended, hW, hsame⟩ := X43.leave (v := some (.ref (sf 10))) (fun h => by rw [Bd.returns] at h; cases h)
                        refine ⟨_, _, pre43 _ ?_, hrun, hended, _, _, rfl, ?_, ⟨_, rfl⟩, hW, hsame.mono (by decide) (by decide)⟩
                        · show Steps p.tables e below (T43.setTop (mkF m 102 #[.val (.int p1)] [(.ref (sf 10))])) _
                          jvm_step X43.here [X43.here.top, hx, (hb hby d1_102), X43.method', Bd.returns, Value.isRef, FieldType.isReference]
                          first | (intro acts; rw [hr _ acts rfl rfl rfl]) | rw [hr _ _ rfl rfl rfl]
                          exact Steps.refl _
                        · show Qrm1 Z p1 sf h0 n0 _ T43.heap _
                          rw [e43]
                          exact ⟨congrArg some (congrArg Value.ref hres), N0, rfl⟩
                      · have pre44 : ∀ t, Steps p.tables e below (s₁.setTop (mkF m 103 #[.val (.int p1)] [])) t → Steps p.tables e below (s₁.setTop (entryFrame m #[(.int p1)] 1)) t := by
                          intro t kt
                          refine pre41 t ?_
                          show Steps p.tables e below (s₁.setTop (mkF m 96 #[.val (.int p1)] [(.int (10 : Int32)), (.int p1)])) _
                          refine XS.icmpYes X0.here hx rfl (pc0 := 96) (pc' := 103) rfl (hb hby d1_96) rfl (feq hc96).2 (by decide) (by decide) ?_
                          exact kt
                        have pre45 : ∀ t, Steps p.tables e below (s₁.setTop (mkF m 106 #[.val (.int p1)] [(.int (11 : Int32)), (.int p1)])) t → Steps p.tables e below (s₁.setTop (entryFrame m #[(.int p1)] 1)) t := by
                          intro t kt
                          refine pre44 t ?_
                          show Steps p.tables e below (s₁.setTop (mkF m 103 #[.val (.int p1)] [])) _
                          refine XS.iloadN X0.here hx rfl (hb hby d1_103) rfl ?_
                          show Steps p.tables e below (s₁.setTop (mkF m 104 #[.val (.int p1)] [(.int p1)])) _
                          refine XS.bipush X0.here hx rfl (hb hby d1_104) ?_
                          exact kt
                        by_cases hc106 : p1 = (11 : Int32)
                        · have pre46 : ∀ t, Steps p.tables e below (s₁.setTop (mkF m 109 #[.val (.int p1)] [])) t → Steps p.tables e below (s₁.setTop (entryFrame m #[(.int p1)] 1)) t := by
                            intro t kt
                            refine pre45 t ?_
                            show Steps p.tables e below (s₁.setTop (mkF m 106 #[.val (.int p1)] [(.int (11 : Int32)), (.int p1)])) _
                            refine XS.icmpNo X0.here hx rfl (hb hby d1_106) rfl (teq hc106).2 ?_
                            exact kt
                          obtain ⟨T47, X47, e47, st47⟩ := getS2 X0 hx hZ hown (host := "") (Or.inl (hw _ (List.mem_of_getElem? (i := 52) rfl))) Via.refl e0 ST_DESCRIBE_GROUPS (g := (mkF m 109 #[.val (.int p1)] [])) rfl (hb hby d1_109)
                          have pre47 : ∀ t, Steps p.tables e below (T47.setTop (mkF m 112 #[.val (.int p1)] [(.ref (sf 11))])) t → Steps p.tables e below (s₁.setTop (entryFrame m #[(.int p1)] 1)) t := fun t kt => pre46 t (st47 _ kt)
                          have hres : (sf 11) = (sf (own_idx p1)) := by simp [own_idx, hc1, hc10, hc19, hc28, hc37, hc46, hc56, hc66, hc76, hc86, hc96, hc106]
                          obtain ⟨fs, hr, hrun, hended, hW, hsame⟩ := X47.leave (v := some (.ref (sf 11))) (fun h => by rw [Bd.returns] at h; cases h)
                          refine ⟨_, _, pre47 _ ?_, hrun, hended, _, _, rfl, ?_, ⟨_, rfl⟩, hW, hsame.mono (by decide) (by decide)⟩
                          · show Steps p.tables e below (T47.setTop (mkF m 112 #[.val (.int p1)] [(.ref (sf 11))])) _
                            jvm_step X47.here [X47.here.top, hx, (hb hby d1_112), X47.method', Bd.returns, Value.isRef, FieldType.isReference]
                            first | (intro acts; rw [hr _ acts rfl rfl rfl]) | rw [hr _ _ rfl rfl rfl]
                            exact Steps.refl _
                          · show Qrm1 Z p1 sf h0 n0 _ T47.heap _
                            rw [e47]
                            exact ⟨congrArg some (congrArg Value.ref hres), N0, rfl⟩
                        · have pre48 : ∀ t, Steps p.tables e below (s₁.setTop (mkF m 113 #[.val (.int p1)] [])) t → Steps p.tables e below (s₁.setTop (entryFrame m #[(.int p1)] 1)) t := by
                            intro t kt
                            refine pre45 t ?_
                            show Steps p.tables e below (s₁.setTop (mkF m 106 #[.val (.int p1)] [(.int (11 : Int32)), (.int p1)])) _
                            refine XS.icmpYes X0.here hx rfl (pc0 := 106) (pc' := 113) rfl (hb hby d1_106) rfl (feq hc106).2 (by decide) (by decide) ?_
                            exact kt
                          have pre49 : ∀ t, Steps p.tables e below (s₁.setTop (mkF m 116 #[.val (.int p1)] [(.int (12 : Int32)), (.int p1)])) t → Steps p.tables e below (s₁.setTop (entryFrame m #[(.int p1)] 1)) t := by
                            intro t kt
                            refine pre48 t ?_
                            show Steps p.tables e below (s₁.setTop (mkF m 113 #[.val (.int p1)] [])) _
                            refine XS.iloadN X0.here hx rfl (hb hby d1_113) rfl ?_
                            show Steps p.tables e below (s₁.setTop (mkF m 114 #[.val (.int p1)] [(.int p1)])) _
                            refine XS.bipush X0.here hx rfl (hb hby d1_114) ?_
                            exact kt
                          by_cases hc116 : p1 = (12 : Int32)
                          · have pre50 : ∀ t, Steps p.tables e below (s₁.setTop (mkF m 119 #[.val (.int p1)] [])) t → Steps p.tables e below (s₁.setTop (entryFrame m #[(.int p1)] 1)) t := by
                              intro t kt
                              refine pre49 t ?_
                              show Steps p.tables e below (s₁.setTop (mkF m 116 #[.val (.int p1)] [(.int (12 : Int32)), (.int p1)])) _
                              refine XS.icmpNo X0.here hx rfl (hb hby d1_116) rfl (teq hc116).2 ?_
                              exact kt
                            obtain ⟨T51, X51, e51, st51⟩ := getS2 X0 hx hZ hown (host := "") (Or.inl (hw _ (List.mem_of_getElem? (i := 26) rfl))) Via.refl e0 ST_LIST_GROUPS (g := (mkF m 119 #[.val (.int p1)] [])) rfl (hb hby d1_119)
                            have pre51 : ∀ t, Steps p.tables e below (T51.setTop (mkF m 122 #[.val (.int p1)] [(.ref (sf 12))])) t → Steps p.tables e below (s₁.setTop (entryFrame m #[(.int p1)] 1)) t := fun t kt => pre50 t (st51 _ kt)
                            have hres : (sf 12) = (sf (own_idx p1)) := by simp [own_idx, hc1, hc10, hc19, hc28, hc37, hc46, hc56, hc66, hc76, hc86, hc96, hc106, hc116]
                            obtain ⟨fs, hr, hrun, hended, hW, hsame⟩ := X51.leave (v := some (.ref (sf 12))) (fun h => by rw [Bd.returns] at h; cases h)
                            refine ⟨_, _, pre51 _ ?_, hrun, hended, _, _, rfl, ?_, ⟨_, rfl⟩, hW, hsame.mono (by decide) (by decide)⟩
                            · show Steps p.tables e below (T51.setTop (mkF m 122 #[.val (.int p1)] [(.ref (sf 12))])) _
                              jvm_step X51.here [X51.here.top, hx, (hb hby d1_122), X51.method', Bd.returns, Value.isRef, FieldType.isReference]
                              first | (intro acts; rw [hr _ acts rfl rfl rfl]) | rw [hr _ _ rfl rfl rfl]
                              exact Steps.refl _
                            · show Qrm1 Z p1 sf h0 n0 _ T51.heap _
                              rw [e51]
                              exact ⟨congrArg some (congrArg Value.ref hres), N0, rfl⟩
                          · have pre52 : ∀ t, Steps p.tables e below (s₁.setTop (mkF m 123 #[.val (.int p1)] [])) t → Steps p.tables e below (s₁.setTop (entryFrame m #[(.int p1)] 1)) t := by
                              intro t kt
                              refine pre49 t ?_
                              show Steps p.tables e below (s₁.setTop (mkF m 116 #[.val (.int p1)] [(.int (12 : Int32)), (.int p1)])) _
                              refine XS.icmpYes X0.here hx rfl (pc0 := 116) (pc' := 123) rfl (hb hby d1_116) rfl (feq hc116).2 (by decide) (by decide) ?_
                              exact kt
                            have pre53 : ∀ t, Steps p.tables e below (s₁.setTop (mkF m 126 #[.val (.int p1)] [(.int (13 : Int32)), (.int p1)])) t → Steps p.tables e below (s₁.setTop (entryFrame m #[(.int p1)] 1)) t := by
                              intro t kt
                              refine pre52 t ?_
                              show Steps p.tables e below (s₁.setTop (mkF m 123 #[.val (.int p1)] [])) _
                              refine XS.iloadN X0.here hx rfl (hb hby d1_123) rfl ?_
                              show Steps p.tables e below (s₁.setTop (mkF m 124 #[.val (.int p1)] [(.int p1)])) _
                              refine XS.bipush X0.here hx rfl (hb hby d1_124) ?_
                              exact kt
                            by_cases hc126 : p1 = (13 : Int32)
                            · have pre54 : ∀ t, Steps p.tables e below (s₁.setTop (mkF m 129 #[.val (.int p1)] [])) t → Steps p.tables e below (s₁.setTop (entryFrame m #[(.int p1)] 1)) t := by
                                intro t kt
                                refine pre53 t ?_
                                show Steps p.tables e below (s₁.setTop (mkF m 126 #[.val (.int p1)] [(.int (13 : Int32)), (.int p1)])) _
                                refine XS.icmpNo X0.here hx rfl (hb hby d1_126) rfl (teq hc126).2 ?_
                                exact kt
                              obtain ⟨T55, X55, e55, st55⟩ := getS2 X0 hx hZ hown (host := "") (Or.inl (hw _ (List.mem_of_getElem? (i := 62) rfl))) Via.refl e0 ST_API_VERSIONS (g := (mkF m 129 #[.val (.int p1)] [])) rfl (hb hby d1_129)
                              have pre55 : ∀ t, Steps p.tables e below (T55.setTop (mkF m 132 #[.val (.int p1)] [(.ref (sf 13))])) t → Steps p.tables e below (s₁.setTop (entryFrame m #[(.int p1)] 1)) t := fun t kt => pre54 t (st55 _ kt)
                              have hres : (sf 13) = (sf (own_idx p1)) := by simp [own_idx, hc1, hc10, hc19, hc28, hc37, hc46, hc56, hc66, hc76, hc86, hc96, hc106, hc116, hc126]
                              obtain ⟨fs, hr, hrun, hended, hW, hsame⟩ := X55.leave (v := some (.ref (sf 13))) (fun h => by rw [Bd.returns] at h; cases h)
                              refine ⟨_, _, pre55 _ ?_, hrun, hended, _, _, rfl, ?_, ⟨_, rfl⟩, hW, hsame.mono (by decide) (by decide)⟩
                              · show Steps p.tables e below (T55.setTop (mkF m 132 #[.val (.int p1)] [(.ref (sf 13))])) _
                                jvm_step X55.here [X55.here.top, hx, (hb hby d1_132), X55.method', Bd.returns, Value.isRef, FieldType.isReference]
                                first | (intro acts; rw [hr _ acts rfl rfl rfl]) | rw [hr _ _ rfl rfl rfl]
                                exact Steps.refl _
                              · show Qrm1 Z p1 sf h0 n0 _ T55.heap _
                                rw [e55]
                                exact ⟨congrArg some (congrArg Value.ref hres), N0, rfl⟩
                            · have pre56 : ∀ t, Steps p.tables e below (s₁.setTop (mkF m 133 #[.val (.int p1)] [])) t → Steps p.tables e below (s₁.setTop (entryFrame m #[(.int p1)] 1)) t := by
                                intro t kt
                                refine pre53 t ?_
                                show Steps p.tables e below (s₁.setTop (mkF m 126 #[.val (.int p1)] [(.int (13 : Int32)), (.int p1)])) _
                                refine XS.icmpYes X0.here hx rfl (pc0 := 126) (pc' := 133) rfl (hb hby d1_126) rfl (feq hc126).2 (by decide) (by decide) ?_
                                exact kt
                              have pre57 : ∀ t, Steps p.tables e below (s₁.setTop (mkF m 136 #[.val (.int p1)] [(.int (14 : Int32)), (.int p1)])) t → Steps p.tables e below (s₁.setTop (entryFrame m #[(.int p1)] 1)) t := by
                                intro t kt
                                refine pre56 t ?_
                                show Steps p.tables e below (s₁.setTop (mkF m 133 #[.val (.int p1)] [])) _
                                refine XS.iloadN X0.here hx rfl (hb hby d1_133) rfl ?_
                                show Steps p.tables e below (s₁.setTop (mkF m 134 #[.val (.int p1)] [(.int p1)])) _
                                refine XS.bipush X0.here hx rfl (hb hby d1_134) ?_
                                exact kt
                              by_cases hc136 : p1 = (14 : Int32)
                              · have pre58 : ∀ t, Steps p.tables e below (s₁.setTop (mkF m 139 #[.val (.int p1)] [])) t → Steps p.tables e below (s₁.setTop (entryFrame m #[(.int p1)] 1)) t := by
                                  intro t kt
                                  refine pre57 t ?_
                                  show Steps p.tables e below (s₁.setTop (mkF m 136 #[.val (.int p1)] [(.int (14 : Int32)), (.int p1)])) _
                                  refine XS.icmpNo X0.here hx rfl (hb hby d1_136) rfl (teq hc136).2 ?_
                                  exact kt
                                obtain ⟨T59, X59, e59, st59⟩ := getS2 X0 hx hZ hown (host := "") (Or.inl (hw _ (List.mem_of_getElem? (i := 18) rfl))) Via.refl e0 ST_CREATE_TOPICS (g := (mkF m 139 #[.val (.int p1)] [])) rfl (hb hby d1_139)
                                have pre59 : ∀ t, Steps p.tables e below (T59.setTop (mkF m 142 #[.val (.int p1)] [(.ref (sf 14))])) t → Steps p.tables e below (s₁.setTop (entryFrame m #[(.int p1)] 1)) t := fun t kt => pre58 t (st59 _ kt)
                                have hres : (sf 14) = (sf (own_idx p1)) := by simp [own_idx, hc1, hc10, hc19, hc28, hc37, hc46, hc56, hc66, hc76, hc86, hc96, hc106, hc116, hc126, hc136]
                                obtain ⟨fs, hr, hrun, hended, hW, hsame⟩ := X59.leave (v := some (.ref (sf 14))) (fun h => by rw [Bd.returns] at h; cases h)
                                refine ⟨_, _, pre59 _ ?_, hrun, hended, _, _, rfl, ?_, ⟨_, rfl⟩, hW, hsame.mono (by decide) (by decide)⟩
                                · show Steps p.tables e below (T59.setTop (mkF m 142 #[.val (.int p1)] [(.ref (sf 14))])) _
                                  jvm_step X59.here [X59.here.top, hx, (hb hby d1_142), X59.method', Bd.returns, Value.isRef, FieldType.isReference]
                                  first | (intro acts; rw [hr _ acts rfl rfl rfl]) | rw [hr _ _ rfl rfl rfl]
                                  exact Steps.refl _
                                · show Qrm1 Z p1 sf h0 n0 _ T59.heap _
                                  rw [e59]
                                  exact ⟨congrArg some (congrArg Value.ref hres), N0, rfl⟩
                              · have pre60 : ∀ t, Steps p.tables e below (s₁.setTop (mkF m 143 #[.val (.int p1)] [])) t → Steps p.tables e below (s₁.setTop (entryFrame m #[(.int p1)] 1)) t := by
                                  intro t kt
                                  refine pre57 t ?_
                                  show Steps p.tables e below (s₁.setTop (mkF m 136 #[.val (.int p1)] [(.int (14 : Int32)), (.int p1)])) _
                                  refine XS.icmpYes X0.here hx rfl (pc0 := 136) (pc' := 143) rfl (hb hby d1_136) rfl (feq hc136).2 (by decide) (by decide) ?_
                                  exact kt
                                have pre61 : ∀ t, Steps p.tables e below (s₁.setTop (mkF m 146 #[.val (.int p1)] [(.int (15 : Int32)), (.int p1)])) t → Steps p.tables e below (s₁.setTop (entryFrame m #[(.int p1)] 1)) t := by
                                  intro t kt
                                  refine pre60 t ?_
                                  show Steps p.tables e below (s₁.setTop (mkF m 143 #[.val (.int p1)] [])) _
                                  refine XS.iloadN X0.here hx rfl (hb hby d1_143) rfl ?_
                                  show Steps p.tables e below (s₁.setTop (mkF m 144 #[.val (.int p1)] [(.int p1)])) _
                                  refine XS.bipush X0.here hx rfl (hb hby d1_144) ?_
                                  exact kt
                                by_cases hc146 : p1 = (15 : Int32)
                                · have pre62 : ∀ t, Steps p.tables e below (s₁.setTop (mkF m 149 #[.val (.int p1)] [])) t → Steps p.tables e below (s₁.setTop (entryFrame m #[(.int p1)] 1)) t := by
                                    intro t kt
                                    refine pre61 t ?_
                                    show Steps p.tables e below (s₁.setTop (mkF m 146 #[.val (.int p1)] [(.int (15 : Int32)), (.int p1)])) _
                                    refine XS.icmpNo X0.here hx rfl (hb hby d1_146) rfl (teq hc146).2 ?_
                                    exact kt
                                  obtain ⟨T63, X63, e63, st63⟩ := getS2 X0 hx hZ hown (host := "") (Or.inl (hw _ (List.mem_of_getElem? (i := 36) rfl))) Via.refl e0 ST_DELETE_TOPICS (g := (mkF m 149 #[.val (.int p1)] [])) rfl (hb hby d1_149)
                                  have pre63 : ∀ t, Steps p.tables e below (T63.setTop (mkF m 152 #[.val (.int p1)] [(.ref (sf 15))])) t → Steps p.tables e below (s₁.setTop (entryFrame m #[(.int p1)] 1)) t := fun t kt => pre62 t (st63 _ kt)
                                  have hres : (sf 15) = (sf (own_idx p1)) := by simp [own_idx, hc1, hc10, hc19, hc28, hc37, hc46, hc56, hc66, hc76, hc86, hc96, hc106, hc116, hc126, hc136, hc146]
                                  obtain ⟨fs, hr, hrun, hended, hW, hsame⟩ := X63.leave (v := some (.ref (sf 15))) (fun h => by rw [Bd.returns] at h; cases h)
                                  refine ⟨_, _, pre63 _ ?_, hrun, hended, _, _, rfl, ?_, ⟨_, rfl⟩, hW, hsame.mono (by decide) (by decide)⟩
                                  · show Steps p.tables e below (T63.setTop (mkF m 152 #[.val (.int p1)] [(.ref (sf 15))])) _
                                    jvm_step X63.here [X63.here.top, hx, (hb hby d1_152), X63.method', Bd.returns, Value.isRef, FieldType.isReference]
                                    first | (intro acts; rw [hr _ acts rfl rfl rfl]) | rw [hr _ _ rfl rfl rfl]
                                    exact Steps.refl _
                                  · show Qrm1 Z p1 sf h0 n0 _ T63.heap _
                                    rw [e63]
                                    exact ⟨congrArg some (congrArg Value.ref hres), N0, rfl⟩
                                · have pre64 : ∀ t, Steps p.tables e below (s₁.setTop (mkF m 153 #[.val (.int p1)] [])) t → Steps p.tables e below (s₁.setTop (entryFrame m #[(.int p1)] 1)) t := by
                                    intro t kt
                                    refine pre61 t ?_
                                    show Steps p.tables e below (s₁.setTop (mkF m 146 #[.val (.int p1)] [(.int (15 : Int32)), (.int p1)])) _
                                    refine XS.icmpYes X0.here hx rfl (pc0 := 146) (pc' := 153) rfl (hb hby d1_146) rfl (feq hc146).2 (by decide) (by decide) ?_
                                    exact kt
                                  have pre65 : ∀ t, Steps p.tables e below (s₁.setTop (mkF m 156 #[.val (.int p1)] [(.int (16 : Int32)), (.int p1)])) t → Steps p.tables e below (s₁.setTop (entryFrame m #[(.int p1)] 1)) t := by
                                    intro t kt
                                    refine pre64 t ?_
                                    show Steps p.tables e below (s₁.setTop (mkF m 153 #[.val (.int p1)] [])) _
                                    refine XS.iloadN X0.here hx rfl (hb hby d1_153) rfl ?_
                                    show Steps p.tables e below (s₁.setTop (mkF m 154 #[.val (.int p1)] [(.int p1)])) _
                                    refine XS.bipush X0.here hx rfl (hb hby d1_154) ?_
                                    exact kt
                                  by_cases hc156 : p1 = (16 : Int32)
                                  · have pre66 : ∀ t, Steps p.tables e below (s₁.setTop (mkF m 159 #[.val (.int p1)] [])) t → Steps p.tables e below (s₁.setTop (entryFrame m #[(.int p1)] 1)) t := by
                                      intro t kt
                                      refine pre65 t ?_
                                      show Steps p.tables e below (s₁.setTop (mkF m 156 #[.val (.int p1)] [(.int (16 : Int32)), (.int p1)])) _
                                      refine XS.icmpNo X0.here hx rfl (hb hby d1_156) rfl (teq hc156).2 ?_
                                      exact kt
                                    obtain ⟨T67, X67, e67, st67⟩ := getS2 X0 hx hZ hown (host := "") (Or.inl (hw _ (List.mem_of_getElem? (i := 56) rfl))) Via.refl e0 ST_INIT_PRODUCER_ID (g := (mkF m 159 #[.val (.int p1)] [])) rfl (hb hby d1_159)
                                    have pre67 : ∀ t, Steps p.tables e below (T67.setTop (mkF m 162 #[.val (.int p1)] [(.ref (sf 16))])) t → Steps p.tables e below (s₁.setTop (entryFrame m #[(.int p1)] 1)) t := fun t kt => pre66 t (st67 _ kt)
                                    have hres : (sf 16) = (sf (own_idx p1)) := by simp [own_idx, hc1, hc10, hc19, hc28, hc37, hc46, hc56, hc66, hc76, hc86, hc96, hc106, hc116, hc126, hc136, hc146, hc156]
                                    obtain ⟨fs, hr, hrun, hended, hW, hsame⟩ := X67.leave (v := some (.ref (sf 16))) (fun h => by rw [Bd.returns] at h; cases h)
                                    refine ⟨_, _, pre67 _ ?_, hrun, hended, _, _, rfl, ?_, ⟨_, rfl⟩, hW, hsame.mono (by decide) (by decide)⟩
                                    · show Steps p.tables e below (T67.setTop (mkF m 162 #[.val (.int p1)] [(.ref (sf 16))])) _
                                      jvm_step X67.here [X67.here.top, hx, (hb hby d1_162), X67.method', Bd.returns, Value.isRef, FieldType.isReference]
                                      first | (intro acts; rw [hr _ acts rfl rfl rfl]) | rw [hr _ _ rfl rfl rfl]
                                      exact Steps.refl _
                                    · show Qrm1 Z p1 sf h0 n0 _ T67.heap _
                                      rw [e67]
                                      exact ⟨congrArg some (congrArg Value.ref hres), N0, rfl⟩
                                  · have pre68 : ∀ t, Steps p.tables e below (s₁.setTop (mkF m 163 #[.val (.int p1)] [])) t → Steps p.tables e below (s₁.setTop (entryFrame m #[(.int p1)] 1)) t := by
                                      intro t kt
                                      refine pre65 t ?_
                                      show Steps p.tables e below (s₁.setTop (mkF m 156 #[.val (.int p1)] [(.int (16 : Int32)), (.int p1)])) _
                                      refine XS.icmpYes X0.here hx rfl (pc0 := 156) (pc' := 163) rfl (hb hby d1_156) rfl (feq hc156).2 (by decide) (by decide) ?_
                                      exact kt
                                    have pre69 : ∀ t, Steps p.tables e below (s₁.setTop (mkF m 166 #[.val (.int p1)] [(.int (17 : Int32)), (.int p1)])) t → Steps p.tables e below (s₁.setTop (entryFrame m #[(.int p1)] 1)) t := by
                                      intro t kt
                                      refine pre68 t ?_
                                      show Steps p.tables e below (s₁.setTop (mkF m 163 #[.val (.int p1)] [])) _
                                      refine XS.iloadN X0.here hx rfl (hb hby d1_163) rfl ?_
                                      show Steps p.tables e below (s₁.setTop (mkF m 164 #[.val (.int p1)] [(.int p1)])) _
                                      refine XS.bipush X0.here hx rfl (hb hby d1_164) ?_
                                      exact kt
                                    by_cases hc166 : p1 = (17 : Int32)
                                    · have pre70 : ∀ t, Steps p.tables e below (s₁.setTop (mkF m 169 #[.val (.int p1)] [])) t → Steps p.tables e below (s₁.setTop (entryFrame m #[(.int p1)] 1)) t := by
                                        intro t kt
                                        refine pre69 t ?_
                                        show Steps p.tables e below (s₁.setTop (mkF m 166 #[.val (.int p1)] [(.int (17 : Int32)), (.int p1)])) _
                                        refine XS.icmpNo X0.here hx rfl (hb hby d1_166) rfl (teq hc166).2 ?_
                                        exact kt
                                      obtain ⟨T71, X71, e71, st71⟩ := getS2 X0 hx hZ hown (host := "") (Or.inl (hw _ (List.mem_of_getElem? (i := 46) rfl))) Via.refl e0 ST_DESCRIBE_CONFIGS (g := (mkF m 169 #[.val (.int p1)] [])) rfl (hb hby d1_169)
                                      have pre71 : ∀ t, Steps p.tables e below (T71.setTop (mkF m 172 #[.val (.int p1)] [(.ref (sf 17))])) t → Steps p.tables e below (s₁.setTop (entryFrame m #[(.int p1)] 1)) t := fun t kt => pre70 t (st71 _ kt)
                                      have hres : (sf 17) = (sf (own_idx p1)) := by simp [own_idx, hc1, hc10, hc19, hc28, hc37, hc46, hc56, hc66, hc76, hc86, hc96, hc106, hc116, hc126, hc136, hc146, hc156, hc166]
                                      obtain ⟨fs, hr, hrun, hended, hW, hsame⟩ := X71.leave (v := some (.ref (sf 17))) (fun h => by rw [Bd.returns] at h; cases h)
                                      refine ⟨_, _, pre71 _ ?_, hrun, hended, _, _, rfl, ?_, ⟨_, rfl⟩, hW, hsame.mono (by decide) (by decide)⟩
                                      · show Steps p.tables e below (T71.setTop (mkF m 172 #[.val (.int p1)] [(.ref (sf 17))])) _
                                        jvm_step X71.here [X71.here.top, hx, (hb hby d1_172), X71.method', Bd.returns, Value.isRef, FieldType.isReference]
                                        first | (intro acts; rw [hr _ acts rfl rfl rfl]) | rw [hr _ _ rfl rfl rfl]
                                        exact Steps.refl _
                                      · show Qrm1 Z p1 sf h0 n0 _ T71.heap _
                                        rw [e71]
                                        exact ⟨congrArg some (congrArg Value.ref hres), N0, rfl⟩
                                    · have pre72 : ∀ t, Steps p.tables e below (s₁.setTop (mkF m 173 #[.val (.int p1)] [])) t → Steps p.tables e below (s₁.setTop (entryFrame m #[(.int p1)] 1)) t := by
                                        intro t kt
                                        refine pre69 t ?_
                                        show Steps p.tables e below (s₁.setTop (mkF m 166 #[.val (.int p1)] [(.int (17 : Int32)), (.int p1)])) _
                                        refine XS.icmpYes X0.here hx rfl (pc0 := 166) (pc' := 173) rfl (hb hby d1_166) rfl (feq hc166).2 (by decide) (by decide) ?_
                                        exact kt
                                      have pre73 : ∀ t, Steps p.tables e below (s₁.setTop (mkF m 176 #[.val (.int p1)] [(.int (18 : Int32)), (.int p1)])) t → Steps p.tables e below (s₁.setTop (entryFrame m #[(.int p1)] 1)) t := by
                                        intro t kt
                                        refine pre72 t ?_
                                        show Steps p.tables e below (s₁.setTop (mkF m 173 #[.val (.int p1)] [])) _
                                        refine XS.iloadN X0.here hx rfl (hb hby d1_173) rfl ?_
                                        show Steps p.tables e below (s₁.setTop (mkF m 174 #[.val (.int p1)] [(.int p1)])) _
                                        refine XS.bipush X0.here hx rfl (hb hby d1_174) ?_
                                        exact kt
                                      by_cases hc176 : p1 = (18 : Int32)
                                      · have pre74 : ∀ t, Steps p.tables e below (s₁.setTop (mkF m 179 #[.val (.int p1)] [])) t → Steps p.tables e below (s₁.setTop (entryFrame m #[(.int p1)] 1)) t := by
                                          intro t kt
                                          refine pre73 t ?_
                                          show Steps p.tables e below (s₁.setTop (mkF m 176 #[.val (.int p1)] [(.int (18 : Int32)), (.int p1)])) _
                                          refine XS.icmpNo X0.here hx rfl (hb hby d1_176) rfl (teq hc176).2 ?_
                                          exact kt
                                        obtain ⟨T75, X75, e75, st75⟩ := getS2 X0 hx hZ hown (host := "") (Or.inl (hw _ (List.mem_of_getElem? (i := 60) rfl))) Via.refl e0 ST_ALTER_CONFIGS (g := (mkF m 179 #[.val (.int p1)] [])) rfl (hb hby d1_179)
                                        have pre75 : ∀ t, Steps p.tables e below (T75.setTop (mkF m 182 #[.val (.int p1)] [(.ref (sf 18))])) t → Steps p.tables e below (s₁.setTop (entryFrame m #[(.int p1)] 1)) t := fun t kt => pre74 t (st75 _ kt)
                                        have hres : (sf 18) = (sf (own_idx p1)) := by simp [own_idx, hc1, hc10, hc19, hc28, hc37, hc46, hc56, hc66, hc76, hc86, hc96, hc106, hc116, hc126, hc136, hc146, hc156, hc166, hc176]
                                        obtain ⟨fs, hr, hrun, hended, hW, hsame⟩ := X75.leave (v := some (.ref (sf 18))) (fun h => by rw [Bd.returns] at h; cases h)
                                        refine ⟨_, _, pre75 _ ?_, hrun, hended, _, _, rfl, ?_, ⟨_, rfl⟩, hW, hsame.mono (by decide) (by decide)⟩
                                        · show Steps p.tables e below (T75.setTop (mkF m 182 #[.val (.int p1)] [(.ref (sf 18))])) _
                                          jvm_step X75.here [X75.here.top, hx, (hb hby d1_182), X75.method', Bd.returns, Value.isRef, FieldType.isReference]
                                          first | (intro acts; rw [hr _ acts rfl rfl rfl]) | rw [hr _ _ rfl rfl rfl]
                                          exact Steps.refl _
                                        · show Qrm1 Z p1 sf h0 n0 _ T75.heap _
                                          rw [e75]
                                          exact ⟨congrArg some (congrArg Value.ref hres), N0, rfl⟩
                                      · have pre76 : ∀ t, Steps p.tables e below (s₁.setTop (mkF m 183 #[.val (.int p1)] [])) t → Steps p.tables e below (s₁.setTop (entryFrame m #[(.int p1)] 1)) t := by
                                          intro t kt
                                          refine pre73 t ?_
                                          show Steps p.tables e below (s₁.setTop (mkF m 176 #[.val (.int p1)] [(.int (18 : Int32)), (.int p1)])) _
                                          refine XS.icmpYes X0.here hx rfl (pc0 := 176) (pc' := 183) rfl (hb hby d1_176) rfl (feq hc176).2 (by decide) (by decide) ?_
                                          exact kt
                                        have pre77 : ∀ t, Steps p.tables e below (s₁.setTop (mkF m 186 #[.val (.int p1)] [(.int (19 : Int32)), (.int p1)])) t → Steps p.tables e below (s₁.setTop (entryFrame m #[(.int p1)] 1)) t := by
                                          intro t kt
                                          refine pre76 t ?_
                                          show Steps p.tables e below (s₁.setTop (mkF m 183 #[.val (.int p1)] [])) _
                                          refine XS.iloadN X0.here hx rfl (hb hby d1_183) rfl ?_
                                          show Steps p.tables e below (s₁.setTop (mkF m 184 #[.val (.int p1)] [(.int p1)])) _
                                          refine XS.bipush X0.here hx rfl (hb hby d1_184) ?_
                                          exact kt
                                        by_cases hc186 : p1 = (19 : Int32)
                                        · have pre78 : ∀ t, Steps p.tables e below (s₁.setTop (mkF m 189 #[.val (.int p1)] [])) t → Steps p.tables e below (s₁.setTop (entryFrame m #[(.int p1)] 1)) t := by
                                            intro t kt
                                            refine pre77 t ?_
                                            show Steps p.tables e below (s₁.setTop (mkF m 186 #[.val (.int p1)] [(.int (19 : Int32)), (.int p1)])) _
                                            refine XS.icmpNo X0.here hx rfl (hb hby d1_186) rfl (teq hc186).2 ?_
                                            exact kt
                                          obtain ⟨T79, X79, e79, st79⟩ := getS2 X0 hx hZ hown (host := "") (Or.inl (hw _ (List.mem_of_getElem? (i := 28) rfl))) Via.refl e0 ST_CREATE_PARTITIONS (g := (mkF m 189 #[.val (.int p1)] [])) rfl (hb hby d1_189)
                                          have pre79 : ∀ t, Steps p.tables e below (T79.setTop (mkF m 192 #[.val (.int p1)] [(.ref (sf 19))])) t → Steps p.tables e below (s₁.setTop (entryFrame m #[(.int p1)] 1)) t := fun t kt => pre78 t (st79 _ kt)
                                          have hres : (sf 19) = (sf (own_idx p1)) := by simp [own_idx, hc1, hc10, hc19, hc28, hc37, hc46, hc56, hc66, hc76, hc86, hc96, hc106, hc116, hc126, hc136, hc146, hc156, hc166, hc176, hc186]
                                          obtain ⟨fs, hr, hrun, hended, hW, hsame⟩ := X79.leave (v := some (.ref (sf 19))) (fun h => by rw [Bd.returns] at h; cases h)
                                          refine ⟨_, _, pre79 _ ?_, hrun, hended, _, _, rfl, ?_, ⟨_, rfl⟩, hW, hsame.mono (by decide) (by decide)⟩
                                          · show Steps p.tables e below (T79.setTop (mkF m 192 #[.val (.int p1)] [(.ref (sf 19))])) _
                                            jvm_step X79.here [X79.here.top, hx, (hb hby d1_192), X79.method', Bd.returns, Value.isRef, FieldType.isReference]
                                            first | (intro acts; rw [hr _ acts rfl rfl rfl]) | rw [hr _ _ rfl rfl rfl]
                                            exact Steps.refl _
                                          · show Qrm1 Z p1 sf h0 n0 _ T79.heap _
                                            rw [e79]
                                            exact ⟨congrArg some (congrArg Value.ref hres), N0, rfl⟩
                                        · have pre80 : ∀ t, Steps p.tables e below (s₁.setTop (mkF m 193 #[.val (.int p1)] [])) t → Steps p.tables e below (s₁.setTop (entryFrame m #[(.int p1)] 1)) t := by
                                            intro t kt
                                            refine pre77 t ?_
                                            show Steps p.tables e below (s₁.setTop (mkF m 186 #[.val (.int p1)] [(.int (19 : Int32)), (.int p1)])) _
                                            refine XS.icmpYes X0.here hx rfl (pc0 := 186) (pc' := 193) rfl (hb hby d1_186) rfl (feq hc186).2 (by decide) (by decide) ?_
                                            exact kt
                                          have pre81 : ∀ t, Steps p.tables e below (s₁.setTop (mkF m 196 #[.val (.int p1)] [(.int (20 : Int32)), (.int p1)])) t → Steps p.tables e below (s₁.setTop (entryFrame m #[(.int p1)] 1)) t := by
                                            intro t kt
                                            refine pre80 t ?_
                                            show Steps p.tables e below (s₁.setTop (mkF m 193 #[.val (.int p1)] [])) _
                                            refine XS.iloadN X0.here hx rfl (hb hby d1_193) rfl ?_
                                            show Steps p.tables e below (s₁.setTop (mkF m 194 #[.val (.int p1)] [(.int p1)])) _
                                            refine XS.bipush X0.here hx rfl (hb hby d1_194) ?_
                                            exact kt
                                          by_cases hc196 : p1 = (20 : Int32)
                                          · have pre82 : ∀ t, Steps p.tables e below (s₁.setTop (mkF m 199 #[.val (.int p1)] [])) t → Steps p.tables e below (s₁.setTop (entryFrame m #[(.int p1)] 1)) t := by
                                              intro t kt
                                              refine pre81 t ?_
                                              show Steps p.tables e below (s₁.setTop (mkF m 196 #[.val (.int p1)] [(.int (20 : Int32)), (.int p1)])) _
                                              refine XS.icmpNo X0.here hx rfl (hb hby d1_196) rfl (teq hc196).2 ?_
                                              exact kt
                                            obtain ⟨T83, X83, e83, st83⟩ := getS2 X0 hx hZ hown (host := "") (Or.inl (hw _ (List.mem_of_getElem? (i := 44) rfl))) Via.refl e0 ST_DELETE_GROUPS (g := (mkF m 199 #[.val (.int p1)] [])) rfl (hb hby d1_199)
                                            have pre83 : ∀ t, Steps p.tables e below (T83.setTop (mkF m 202 #[.val (.int p1)] [(.ref (sf 20))])) t → Steps p.tables e below (s₁.setTop (entryFrame m #[(.int p1)] 1)) t := fun t kt => pre82 t (st83 _ kt)
                                            have hres : (sf 20) = (sf (own_idx p1)) := by simp [own_idx, hc1, hc10, hc19, hc28, hc37, hc46, hc56, hc66, hc76, hc86, hc96, hc106, hc116, hc126, hc136, hc146, hc156, hc166, hc176, hc186, hc196]
                                            obtain ⟨fs, hr, hrun, hended, hW, hsame⟩ := X83.leave (v := some (.ref (sf 20))) (fun h => by rw [Bd.returns] at h; cases h)
                                            refine ⟨_, _, pre83 _ ?_, hrun, hended, _, _, rfl, ?_, ⟨_, rfl⟩, hW, hsame.mono (by decide) (by decide)⟩
                                            · show Steps p.tables e below (T83.setTop (mkF m 202 #[.val (.int p1)] [(.ref (sf 20))])) _
                                              jvm_step X83.here [X83.here.top, hx, (hb hby d1_202), X83.method', Bd.returns, Value.isRef, FieldType.isReference]
                                              first | (intro acts; rw [hr _ acts rfl rfl rfl]) | rw [hr _ _ rfl rfl rfl]
                                              exact Steps.refl _
                                            · show Qrm1 Z p1 sf h0 n0 _ T83.heap _
                                              rw [e83]
                                              exact ⟨congrArg some (congrArg Value.ref hres), N0, rfl⟩
                                          · have pre84 : ∀ t, Steps p.tables e below (s₁.setTop (mkF m 203 #[.val (.int p1)] [])) t → Steps p.tables e below (s₁.setTop (entryFrame m #[(.int p1)] 1)) t := by
                                              intro t kt
                                              refine pre81 t ?_
                                              show Steps p.tables e below (s₁.setTop (mkF m 196 #[.val (.int p1)] [(.int (20 : Int32)), (.int p1)])) _
                                              refine XS.icmpYes X0.here hx rfl (pc0 := 196) (pc' := 203) rfl (hb hby d1_196) rfl (feq hc196).2 (by decide) (by decide) ?_
                                              exact kt
                                            have pre85 : ∀ t, Steps p.tables e below (s₁.setTop (mkF m 206 #[.val (.int p1)] [(.int (21 : Int32)), (.int p1)])) t → Steps p.tables e below (s₁.setTop (entryFrame m #[(.int p1)] 1)) t := by
                                              intro t kt
                                              refine pre84 t ?_
                                              show Steps p.tables e below (s₁.setTop (mkF m 203 #[.val (.int p1)] [])) _
                                              refine XS.iloadN X0.here hx rfl (hb hby d1_203) rfl ?_
                                              show Steps p.tables e below (s₁.setTop (mkF m 204 #[.val (.int p1)] [(.int p1)])) _
                                              refine XS.bipush X0.here hx rfl (hb hby d1_204) ?_
                                              exact kt
                                            by_cases hc206 : p1 = (21 : Int32)
                                            · have pre86 : ∀ t, Steps p.tables e below (s₁.setTop (mkF m 209 #[.val (.int p1)] [])) t → Steps p.tables e below (s₁.setTop (entryFrame m #[(.int p1)] 1)) t := by
                                                intro t kt
                                                refine pre85 t ?_
                                                show Steps p.tables e below (s₁.setTop (mkF m 206 #[.val (.int p1)] [(.int (21 : Int32)), (.int p1)])) _
                                                refine XS.icmpNo X0.here hx rfl (hb hby d1_206) rfl (teq hc206).2 ?_
                                                exact kt
                                              obtain ⟨T87, X87, e87, st87⟩ := getS2 X0 hx hZ hown (host := "") (Or.inl (hw _ (List.mem_of_getElem? (i := 34) rfl))) Via.refl e0 ST_INCREMENTAL_ALTER_CONFIGS (g := (mkF m 209 #[.val (.int p1)] [])) rfl (hb hby d1_209)
                                              have pre87 : ∀ t, Steps p.tables e below (T87.setTop (mkF m 212 #[.val (.int p1)] [(.ref (sf 21))])) t → Steps p.tables e below (s₁.setTop (entryFrame m #[(.int p1)] 1)) t := fun t kt => pre86 t (st87 _ kt)
                                              have hres : (sf 21) = (sf (own_idx p1)) := by simp [own_idx, hc1, hc10, hc19, hc28, hc37, hc46, hc56, hc66, hc76, hc86, hc96, hc106, hc116, hc126, hc136, hc146, hc156, hc166, hc176, hc186, hc196, hc206]
                                              obtain ⟨fs, hr, hrun, hended, hW, hsame⟩ := X87.leave (v := some (.ref (sf 21))) (fun h => by rw [Bd.returns] at h; cases h)
                                              refine ⟨_, _, pre87 _ ?_, hrun, hended, _, _, rfl, ?_, ⟨_, rfl⟩, hW, hsame.mono (by decide) (by decide)⟩
                                              · show Steps p.tables e below (T87.setTop (mkF m 212 #[.val (.int p1)] [(.ref (sf 21))])) _
                                                jvm_step X87.here [X87.here.top, hx, (hb hby d1_212), X87.method', Bd.returns, Value.isRef, FieldType.isReference]
                                                first | (intro acts; rw [hr _ acts rfl rfl rfl]) | rw [hr _ _ rfl rfl rfl]
                                                exact Steps.refl _
                                              · show Qrm1 Z p1 sf h0 n0 _ T87.heap _
                                                rw [e87]
                                                exact ⟨congrArg some (congrArg Value.ref hres), N0, rfl⟩
                                            · have pre88 : ∀ t, Steps p.tables e below (s₁.setTop (mkF m 213 #[.val (.int p1)] [])) t → Steps p.tables e below (s₁.setTop (entryFrame m #[(.int p1)] 1)) t := by
                                                intro t kt
                                                refine pre85 t ?_
                                                show Steps p.tables e below (s₁.setTop (mkF m 206 #[.val (.int p1)] [(.int (21 : Int32)), (.int p1)])) _
                                                refine XS.icmpYes X0.here hx rfl (pc0 := 206) (pc' := 213) rfl (hb hby d1_206) rfl (feq hc206).2 (by decide) (by decide) ?_
                                                exact kt
                                              have pre89 : ∀ t, Steps p.tables e below (s₁.setTop (mkF m 216 #[.val (.int p1)] [(.int (22 : Int32)), (.int p1)])) t → Steps p.tables e below (s₁.setTop (entryFrame m #[(.int p1)] 1)) t := by
                                                intro t kt
                                                refine pre88 t ?_
                                                show Steps p.tables e below (s₁.setTop (mkF m 213 #[.val (.int p1)] [])) _
                                                refine XS.iloadN X0.here hx rfl (hb hby d1_213) rfl ?_
                                                show Steps p.tables e below (s₁.setTop (mkF m 214 #[.val (.int p1)] [(.int p1)])) _
                                                refine XS.bipush X0.here hx rfl (hb hby d1_214) ?_
                                                exact kt
                                              by_cases hc216 : p1 = (22 : Int32)
                                              · have pre90 : ∀ t, Steps p.tables e below (s₁.setTop (mkF m 219 #[.val (.int p1)] [])) t → Steps p.tables e below (s₁.setTop (entryFrame m #[(.int p1)] 1)) t := by
                                                  intro t kt
                                                  refine pre89 t ?_
                                                  show Steps p.tables e below (s₁.setTop (mkF m 216 #[.val (.int p1)] [(.int (22 : Int32)), (.int p1)])) _
                                                  refine XS.icmpNo X0.here hx rfl (hb hby d1_216) rfl (teq hc216).2 ?_
                                                  exact kt
                                                obtain ⟨T91, X91, e91, st91⟩ := getS2 X0 hx hZ hown (host := "") (Or.inl (hw _ (List.mem_of_getElem? (i := 38) rfl))) Via.refl e0 ST_OFFSET_DELETE (g := (mkF m 219 #[.val (.int p1)] [])) rfl (hb hby d1_219)
                                                have pre91 : ∀ t, Steps p.tables e below (T91.setTop (mkF m 222 #[.val (.int p1)] [(.ref (sf 22))])) t → Steps p.tables e below (s₁.setTop (entryFrame m #[(.int p1)] 1)) t := fun t kt => pre90 t (st91 _ kt)
                                                have hres : (sf 22) = (sf (own_idx p1)) := by simp [own_idx, hc1, hc10, hc19, hc28, hc37, hc46, hc56, hc66, hc76, hc86, hc96, hc106, hc116, hc126, hc136, hc146, hc156, hc166, hc176, hc186, hc196, hc206, hc216]
                                                obtain ⟨fs, hr, hrun, hended, hW, hsame⟩ := X91.leave (v := some (.ref (sf 22))) (fun h => by rw [Bd.returns] at h; cases h)
                                                refine ⟨_, _, pre91 _ ?_, hrun, hended, _, _, rfl, ?_, ⟨_, rfl⟩, hW, hsame.mono (by decide) (by decide)⟩
                                                · show Steps p.tables e below (T91.setTop (mkF m 222 #[.val (.int p1)] [(.ref (sf 22))])) _
                                                  jvm_step X91.here [X91.here.top, hx, (hb hby d1_222), X91.method', Bd.returns, Value.isRef, FieldType.isReference]
                                                  first | (intro acts; rw [hr _ acts rfl rfl rfl]) | rw [hr _ _ rfl rfl rfl]
                                                  exact Steps.refl _
                                                · show Qrm1 Z p1 sf h0 n0 _ T91.heap _
                                                  rw [e91]
                                                  exact ⟨congrArg some (congrArg Value.ref hres), N0, rfl⟩
                                              · have pre92 : ∀ t, Steps p.tables e below (s₁.setTop (mkF m 223 #[.val (.int p1)] [])) t → Steps p.tables e below (s₁.setTop (entryFrame m #[(.int p1)] 1)) t := by
                                                  intro t kt
                                                  refine pre89 t ?_
                                                  show Steps p.tables e below (s₁.setTop (mkF m 216 #[.val (.int p1)] [(.int (22 : Int32)), (.int p1)])) _
                                                  refine XS.icmpYes X0.here hx rfl (pc0 := 216) (pc' := 223) rfl (hb hby d1_216) rfl (feq hc216).2 (by decide) (by decide) ?_
                                                  exact kt
                                                have pre93 : ∀ t, Steps p.tables e below (s₁.setTop (mkF m 226 #[.val (.int p1)] [(.int (23 : Int32)), (.int p1)])) t → Steps p.tables e below (s₁.setTop (entryFrame m #[(.int p1)] 1)) t := by
                                                  intro t kt
                                                  refine pre92 t ?_
                                                  show Steps p.tables e below (s₁.setTop (mkF m 223 #[.val (.int p1)] [])) _
                                                  refine XS.iloadN X0.here hx rfl (hb hby d1_223) rfl ?_
                                                  show Steps p.tables e below (s₁.setTop (mkF m 224 #[.val (.int p1)] [(.int p1)])) _
                                                  refine XS.bipush X0.here hx rfl (hb hby d1_224) ?_
                                                  exact kt
                                                by_cases hc226 : p1 = (23 : Int32)
                                                · have pre94 : ∀ t, Steps p.tables e below (s₁.setTop (mkF m 229 #[.val (.int p1)] [])) t → Steps p.tables e below (s₁.setTop (entryFrame m #[(.int p1)] 1)) t := by
                                                    intro t kt
                                                    refine pre93 t ?_
                                                    show Steps p.tables e below (s₁.setTop (mkF m 226 #[.val (.int p1)] [(.int (23 : Int32)), (.int p1)])) _
                                                    refine XS.icmpNo X0.here hx rfl (hb hby d1_226) rfl (teq hc226).2 ?_
                                                    exact kt
                                                  obtain ⟨T95, X95, e95, st95⟩ := getS2 X0 hx hZ hown (host := "") (Or.inl (hw _ (List.mem_of_getElem? (i := 64) rfl))) Via.refl e0 ST_CLUSTER_SYNC (g := (mkF m 229 #[.val (.int p1)] [])) rfl (hb hby d1_229)
                                                  have pre95 : ∀ t, Steps p.tables e below (T95.setTop (mkF m 232 #[.val (.int p1)] [(.ref (sf 23))])) t → Steps p.tables e below (s₁.setTop (entryFrame m #[(.int p1)] 1)) t := fun t kt => pre94 t (st95 _ kt)
                                                  have hres : (sf 23) = (sf (own_idx p1)) := by simp [own_idx, hc1, hc10, hc19, hc28, hc37, hc46, hc56, hc66, hc76, hc86, hc96, hc106, hc116, hc126, hc136, hc146, hc156, hc166, hc176, hc186, hc196, hc206, hc216, hc226]
                                                  obtain ⟨fs, hr, hrun, hended, hW, hsame⟩ := X95.leave (v := some (.ref (sf 23))) (fun h => by rw [Bd.returns] at h; cases h)
                                                  refine ⟨_, _, pre95 _ ?_, hrun, hended, _, _, rfl, ?_, ⟨_, rfl⟩, hW, hsame.mono (by decide) (by decide)⟩
                                                  · show Steps p.tables e below (T95.setTop (mkF m 232 #[.val (.int p1)] [(.ref (sf 23))])) _
                                                    jvm_step X95.here [X95.here.top, hx, (hb hby d1_232), X95.method', Bd.returns, Value.isRef, FieldType.isReference]
                                                    first | (intro acts; rw [hr _ acts rfl rfl rfl]) | rw [hr _ _ rfl rfl rfl]
                                                    exact Steps.refl _
                                                  · show Qrm1 Z p1 sf h0 n0 _ T95.heap _
                                                    rw [e95]
                                                    exact ⟨congrArg some (congrArg Value.ref hres), N0, rfl⟩
                                                · have pre96 : ∀ t, Steps p.tables e below (s₁.setTop (mkF m 233 #[.val (.int p1)] [])) t → Steps p.tables e below (s₁.setTop (entryFrame m #[(.int p1)] 1)) t := by
                                                    intro t kt
                                                    refine pre93 t ?_
                                                    show Steps p.tables e below (s₁.setTop (mkF m 226 #[.val (.int p1)] [(.int (23 : Int32)), (.int p1)])) _
                                                    refine XS.icmpYes X0.here hx rfl (pc0 := 226) (pc' := 233) rfl (hb hby d1_226) rfl (feq hc226).2 (by decide) (by decide) ?_
                                                    exact kt
                                                  obtain ⟨T97, X97, e97, st97⟩ := getS2 X0 hx hZ hown (host := "") (Or.inl (hw _ (List.mem_of_getElem? (i := 48) rfl))) Via.refl e0 ST_CHANGE_TOPIC (g := (mkF m 233 #[.val (.int p1)] [])) rfl (hb hby d1_233)
                                                  have pre97 : ∀ t, Steps p.tables e below (T97.setTop (mkF m 236 #[.val (.int p1)] [(.ref (sf 24))])) t → Steps p.tables e below (s₁.setTop (entryFrame m #[(.int p1)] 1)) t := fun t kt => pre96 t (st97 _ kt)
                                                  have hres : (sf 24) = (sf (own_idx p1)) := by simp [own_idx, hc1, hc10, hc19, hc28, hc37, hc46, hc56, hc66, hc76, hc86, hc96, hc106, hc116, hc126, hc136, hc146, hc156, hc166, hc176, hc186, hc196, hc206, hc216, hc226]
                                                  obtain ⟨fs, hr, hrun, hended, hW, hsame⟩ := X97.leave (v := some (.ref (sf 24))) (fun h => by rw [Bd.returns] at h; cases h)
                                                  refine ⟨_, _, pre97 _ ?_, hrun, hended, _, _, rfl, ?_, ⟨_, rfl⟩, hW, hsame.mono (by decide) (by decide)⟩
                                                  · show Steps p.tables e below (T97.setTop (mkF m 236 #[.val (.int p1)] [(.ref (sf 24))])) _
                                                    jvm_step X97.here [X97.here.top, hx, (hb hby d1_236), X97.method', Bd.returns, Value.isRef, FieldType.isReference]
                                                    first | (intro acts; rw [hr _ acts rfl rfl rfl]) | rw [hr _ _ rfl rfl rfl]
                                                    exact Steps.refl _
                                                  · show Qrm1 Z p1 sf h0 n0 _ T97.heap _
                                                    rw [e97]
                                                    exact ⟨congrArg some (congrArg Value.ref hres), N0, rfl⟩
def Qrm3 (Z : State) (a1 : Addr) (p2 : Int32) (w1 : Int32) (h0 : Heap) (n0 : Nat) (v : Option Value) (h : Heap) (L : List Loc) : Prop := v = some (.int (own_flex p2 w1)) ∧ Fr n0 L ∧ h = h0
theorem d3_0 : decode prog_55_method_6_code 0 = .ok (.iload_n 1, 1) := by decide +kernel
theorem d3_1 : decode prog_55_method_6_code 1 = .ok (.aload_n 0, 1) := by decide +kernel
theorem d3_2 : decode prog_55_method_6_code 2 = .ok (.getfield 106, 3) := by decide +kernel
theorem d3_5 : decode prog_55_method_6_code 5 = .ok (.if_icmp .lt 7, 3) := by decide +kernel
theorem d3_8 : decode prog_55_method_6_code 8 = .ok (.iconst 1, 1) := by decide +kernel
theorem d3_9 : decode prog_55_method_6_code 9 = .ok (.goto 4, 3) := by decide +kernel
theorem d3_12 : decode prog_55_method_6_code 12 = .ok (.iconst 0, 1) := by decide +kernel
theorem d3_13 : decode prog_55_method_6_code 13 = .ok (.ireturn, 1) := by decide +kernel
theorem ef_3 (m : MethodId) (x0 : Addr) (x1 : Int32) : entryFrame m #[(.ref x0), (.int x1)] 2 = mkF m 0 #[.val (.ref x0), .val (.int x1)] [] := by first | (simp [entryFrame, mkF, argsToLocals, Value.category]; done) | rfl
set_option maxRecDepth 65536 in
set_option maxHeartbeats 40000000 in
theorem rm3 (l : Launch) (Z : State) (a0 : Array Value) (hw : ∀ d ∈ tables_1, d.before a0 Z = true) (ws : List Jvm.Cond) (a1 : Addr) (p2 : Int32) (w1 : Int32) (h0 : Heap) (n0 : Nat) (Z0 : n0 ≤ h0.size) (F_firstFlexibleVersion_a1 : Fld Z h0 a1 "com/example/stierlin/stierlin/wire/ApiKey" "firstFlexibleVersion" "S" (.int w1)) :
    MetFree l (⟨"com/example/stierlin/stierlin/wire/ApiKey", "isFlexible", "(S)Z"⟩ : MethodName) (head1 (Jvm.Cond.code (⟨"com/example/stierlin/stierlin/wire/ApiKey", "isFlexible", "(S)Z"⟩ : MethodName) prog_55_method_6_code 2 (some .boolean) :: ws) ({ frames := 0, cells := 0, slots := 0, locals := 0 } : Room)) (fun a U => a = #[(.ref a1), (.int p2)] ∧ Z.Warmed39 U.vm ∧ U.heap = h0) (fun _ _ _ _ _ => True) (fun _ U o U' => ∃ v L, o = .returned v ∧ Qrm3 Z a1 p2 w1 h0 n0 v U'.heap L ∧ FrameEnd U o U' L ({ frames := 0, cells := 0, slots := 0, locals := 0 } : Room).cells ({ frames := 0, cells := 0, slots := 0, locals := 0 } : Room).slots) := by
  refine MetFree.of_bodySF (plainFor_of_name pn_1) hisR ?_
  intro p e s m args below meth c s₁ Bd hml0 hP hK
  obtain ⟨rfl, hZ, hh⟩ := hP
  have hx := Bd.exec
  have hby := Bd.bytes
  have hml : c.maxLocals = 2 := hml0
  have hown : s.vm.findClass "com/example/stierlin/stierlin/wire/ApiKey" = some m.cls := findClass_of_methodNamed Bd.named
  have hnm := (name_of_methodNamed Bd.named Bd.method).1
  have X0 : Stand p l e ({ frames := 0, cells := 0, slots := 0, locals := 0 } : Room) s m #[(.ref a1), (.int p2)] below meth c s₁ [] 0 0 := Stand.of_body Bd
  have e0 : s₁.heap = h0 := by rw [← hh, Bd.state]; rfl
  have N0 := Fr.nil n0
  have pre0 : ∀ t, Steps p.tables e below (s₁.setTop (mkF m 0 #[.val (.ref a1), .val (.int p2)] [])) t → Steps p.tables e below (s₁.setTop (entryFrame m #[(.ref a1), (.int p2)] 2)) t := fun t k => castTop (ef_3 m a1 p2) k
  have pre1 : ∀ t, Steps p.tables e below (s₁.setTop (mkF m 2 #[.val (.ref a1), .val (.int p2)] [(.ref a1), (.int p2)])) t → Steps p.tables e below (s₁.setTop (entryFrame m #[(.ref a1), (.int p2)] 2)) t := by
    intro t kt
    refine pre0 t ?_
    show Steps p.tables e below (s₁.setTop (mkF m 0 #[.val (.ref a1), .val (.int p2)] [])) _
    refine XS.iloadN X0.here hx rfl (hb hby d3_0) rfl ?_
    show Steps p.tables e below (s₁.setTop (mkF m 1 #[.val (.ref a1), .val (.int p2)] [(.int p2)])) _
    refine XS.aloadN X0.here hx rfl (hb hby d3_1) rfl rfl ?_
    exact kt
  obtain ⟨T2, X2, e2, st2⟩ := getF X0 hx hZ hown (host := "") (Or.inl (hw _ (List.mem_of_getElem? (i := 16) rfl))) Via.refl e0 F_firstFlexibleVersion_a1 (g := (mkF m 2 #[.val (.ref a1), .val (.int p2)] [(.ref a1), (.int p2)])) rfl rfl (hb hby d3_2)
  have pre2 : ∀ t, Steps p.tables e below (T2.setTop (mkF m 5 #[.val (.ref a1), .val (.int p2)] [(.int w1), (.int p2)])) t → Steps p.tables e below (s₁.setTop (entryFrame m #[(.ref a1), (.int p2)] 2)) t := fun t kt => pre1 t (st2 _ kt)
  obtain ⟨v3_0, hv3_0, pre3⟩ : ∃ (v3_0 : Int32), v3_0 = (if p2 < w1 then (0 : Int32) else (1 : Int32)) ∧ ∀ t, Steps p.tables e below (T2.setTop (mkF m 13 #[.val (.ref a1), .val (.int p2)] [(.int v3_0)])) t → Steps p.tables e below (s₁.setTop (entryFrame m #[(.ref a1), (.int p2)] 2)) t := by
    refine ⟨_, rfl, ?_⟩
    intro t kt
    refine pre2 t ?_
    show Steps p.tables e below (T2.setTop (mkF m 5 #[.val (.ref a1), .val (.int p2)] [(.int w1), (.int p2)])) _
    by_cases hc5 : p2 < w1
    · (try simp only [if_pos hc5] at kt)
      refine XS.icmpYes X2.here hx rfl (pc0 := 5) (pc' := 12) rfl (hb hby d3_5) rfl (tlt hc5).1 (by decide) (by decide) ?_
      show Steps p.tables e below (T2.setTop (mkF m 12 #[.val (.ref a1), .val (.int p2)] [])) _
      refine XS.iconst X2.here hx rfl (hb hby d3_12) ?_
      exact kt
    · (try simp only [if_neg hc5] at kt)
      refine XS.icmpNo X2.here hx rfl (hb hby d3_5) rfl (flt hc5).1 ?_
      show Steps p.tables e below (T2.setTop (mkF m 8 #[.val (.ref a1), .val (.int p2)] [])) _
      refine XS.iconst X2.here hx rfl (hb hby d3_8) ?_
      show Steps p.tables e below (T2.setTop (mkF m 9 #[.val (.ref a1), .val (.int p2)] [(.int (1 : Int32))])) _
      refine XS.goto X2.here hx rfl (pc0 := 9) (pc' := 13) rfl (hb hby d3_9) (by decide) (by decide) ?_
      exact kt
  have hres : (nar .boolean v3_0) = (own_flex p2 w1) := by rw [hv3_0]; simp only [own_flex, ↓reduceIte]; (repeat' split) <;> first | rfl | contradiction
  obtain ⟨fs, hr, hrun, hended, hW, hsame⟩ := X2.leave (v := some (.int (nar .boolean v3_0))) (fun h => by rw [Bd.returns] at h; cases h)
  refine ⟨_, _, pre3 _ ?_, hrun, hended, _, _, rfl, ?_, ⟨_, rfl⟩, hW, hsame.mono (by decide) (by decide)⟩
  · show Steps p.tables e below (T2.setTop (mkF m 13 #[.val (.ref a1), .val (.int p2)] [(.int v3_0)])) _
    exact retN X2 hx (t := .boolean) Bd.returns (by simp) (hb hby d3_13) hr
  · show Qrm3 Z a1 p2 w1 h0 n0 _ T2.heap _
    rw [e2]
    exact ⟨congrArg some (congrArg Value.int hres), N0, rfl⟩
def Q0 (n0 : Nat) (v : Option Value) (h : Heap) (L : List Loc) : Prop := v = some (.int (1 : Int32)) ∧ Fr n0 L
theorem ef_0 (m : MethodId) (x0 : Int32) (x1 : Int32) : entryFrame m #[(.int x0), (.int x1)] maxLocals = mkF m 0 #[.val (.int x0), .val (.int x1), .unset, .unset, .unset, .unset, .unset, .unset, .unset] [] := by first | (simp [entryFrame, mkF, argsToLocals, Value.category, maxLocals]; done) | rfl
set_option maxRecDepth 65536 in
set_option maxHeartbeats 40000000 in
theorem rm0 (l : Launch) (Z : State) (a0 : Array Value) (hw : ∀ d ∈ tables_1, d.before a0 Z = true) (ws : List Jvm.Cond) (p1 : Int32) (p2 : Int32) (sf : Nat → Addr) (h0 : Heap) (n0 : Nat) (Z0 : n0 ≤ h0.size) (ST_PRODUCE : Sta Z h0 "com/example/stierlin/stierlin/wire/ApiKey" "PRODUCE" "Lcom/example/stierlin/stierlin/wire/ApiKey;" (.ref (sf 0))) (ST_FETCH : Sta Z h0 "com/example/stierlin/stierlin/wire/ApiKey" "FETCH" "Lcom/example/stierlin/stierlin/wire/ApiKey;" (.ref (sf 1))) (ST_LIST_OFFSETS : Sta Z h0 "com/example/stierlin/stierlin/wire/ApiKey" "LIST_OFFSETS" "Lcom/example/stierlin/stierlin/wire/ApiKey;" (.ref (sf 2))) (ST_METADATA : Sta Z h0 "com/example/stierlin/stierlin/wire/ApiKey" "METADATA" "Lcom/example/stierlin/stierlin/wire/ApiKey;" (.ref (sf 3))) (ST_OFFSET_COMMIT : Sta Z h0 "com/example/stierlin/stierlin/wire/ApiKey" "OFFSET_COMMIT" "Lcom/example/stierlin/stierlin/wire/ApiKey;" (.ref (sf 4))) (ST_OFFSET_FETCH : Sta Z h0 "com/example/stierlin/stierlin/wire/ApiKey" "OFFSET_FETCH" "Lcom/example/stierlin/stierlin/wire/ApiKey;" (.ref (sf 5))) (ST_FIND_COORDINATOR : Sta Z h0 "com/example/stierlin/stierlin/wire/ApiKey" "FIND_COORDINATOR" "Lcom/example/stierlin/stierlin/wire/ApiKey;" (.ref (sf 6))) (ST_JOIN_GROUP : Sta Z h0 "com/example/stierlin/stierlin/wire/ApiKey" "JOIN_GROUP" "Lcom/example/stierlin/stierlin/wire/ApiKey;" (.ref (sf 7))) (ST_HEARTBEAT : Sta Z h0 "com/example/stierlin/stierlin/wire/ApiKey" "HEARTBEAT" "Lcom/example/stierlin/stierlin/wire/ApiKey;" (.ref (sf 8))) (ST_LEAVE_GROUP : Sta Z h0 "com/example/stierlin/stierlin/wire/ApiKey" "LEAVE_GROUP" "Lcom/example/stierlin/stierlin/wire/ApiKey;" (.ref (sf 9))) (ST_SYNC_GROUP : Sta Z h0 "com/example/stierlin/stierlin/wire/ApiKey" "SYNC_GROUP" "Lcom/example/stierlin/stierlin/wire/ApiKey;" (.ref (sf 10))) (ST_DESCRIBE_GROUPS : Sta Z h0 "com/example/stierlin/stierlin/wire/ApiKey" "DESCRIBE_GROUPS" "Lcom/example/stierlin/stierlin/wire/ApiKey;" (.ref (sf 11))) (ST_LIST_GROUPS : Sta Z h0 "com/example/stierlin/stierlin/wire/ApiKey" "LIST_GROUPS" "Lcom/example/stierlin/stierlin/wire/ApiKey;" (.ref (sf 12))) (ST_API_VERSIONS : Sta Z h0 "com/example/stierlin/stierlin/wire/ApiKey" "API_VERSIONS" "Lcom/example/stierlin/stierlin/wire/ApiKey;" (.ref (sf 13))) (ST_CREATE_TOPICS : Sta Z h0 "com/example/stierlin/stierlin/wire/ApiKey" "CREATE_TOPICS" "Lcom/example/stierlin/stierlin/wire/ApiKey;" (.ref (sf 14))) (ST_DELETE_TOPICS : Sta Z h0 "com/example/stierlin/stierlin/wire/ApiKey" "DELETE_TOPICS" "Lcom/example/stierlin/stierlin/wire/ApiKey;" (.ref (sf 15))) (ST_INIT_PRODUCER_ID : Sta Z h0 "com/example/stierlin/stierlin/wire/ApiKey" "INIT_PRODUCER_ID" "Lcom/example/stierlin/stierlin/wire/ApiKey;" (.ref (sf 16))) (ST_DESCRIBE_CONFIGS : Sta Z h0 "com/example/stierlin/stierlin/wire/ApiKey" "DESCRIBE_CONFIGS" "Lcom/example/stierlin/stierlin/wire/ApiKey;" (.ref (sf 17))) (ST_ALTER_CONFIGS : Sta Z h0 "com/example/stierlin/stierlin/wire/ApiKey" "ALTER_CONFIGS" "Lcom/example/stierlin/stierlin/wire/ApiKey;" (.ref (sf 18))) (ST_CREATE_PARTITIONS : Sta Z h0 "com/example/stierlin/stierlin/wire/ApiKey" "CREATE_PARTITIONS" "Lcom/example/stierlin/stierlin/wire/ApiKey;" (.ref (sf 19))) (ST_DELETE_GROUPS : Sta Z h0 "com/example/stierlin/stierlin/wire/ApiKey" "DELETE_GROUPS" "Lcom/example/stierlin/stierlin/wire/ApiKey;" (.ref (sf 20))) (ST_INCREMENTAL_ALTER_CONFIGS : Sta Z h0 "com/example/stierlin/stierlin/wire/ApiKey" "INCREMENTAL_ALTER_CONFIGS" "Lcom/example/stierlin/stierlin/wire/ApiKey;" (.ref (sf 21))) (ST_OFFSET_DELETE : Sta Z h0 "com/example/stierlin/stierlin/wire/ApiKey" "OFFSET_DELETE" "Lcom/example/stierlin/stierlin/wire/ApiKey;" (.ref (sf 22))) (ST_CLUSTER_SYNC : Sta Z h0 "com/example/stierlin/stierlin/wire/ApiKey" "CLUSTER_SYNC" "Lcom/example/stierlin/stierlin/wire/ApiKey;" (.ref (sf 23))) (ST_CHANGE_TOPIC : Sta Z h0 "com/example/stierlin/stierlin/wire/ApiKey" "CHANGE_TOPIC" "Lcom/example/stierlin/stierlin/wire/ApiKey;" (.ref (sf 24))) (hE : ∀ i, i < 25 → Exa Z h0 (sf i) "com/example/stierlin/stierlin/wire/ApiKey") (hF : ∀ i, i < 25 → Fld Z h0 (sf i) "com/example/stierlin/stierlin/wire/ApiKey" "firstFlexibleVersion" "S" (.int (own_val i))) :
    MetFree l x (head1 (Jvm.Cond.code x code maxLocals ret :: ws) room_1) (fun a U => a = #[(.int p1), (.int p2)] ∧ Z.Warmed39 U.vm ∧ U.heap = h0) (fun _ _ _ _ _ => True) (fun _ U o U' => ∃ v L, o = .returned v ∧ Q0 n0 v U'.heap L ∧ FrameEnd U o U' L room_1.cells room_1.slots) := by
  refine MetFree.of_bodySF (plainFor_of_name pn_0) hisR ?_
  intro p e s m args below meth c s₁ Bd hml0 hP hK
  obtain ⟨rfl, hZ, hh⟩ := hP
  have hx := Bd.exec
  have hby := Bd.bytes
  have hml : c.maxLocals = 9 := hml0
  have hown : s.vm.findClass "com/example/stierlin/stierlin/wire/ApiKeyIsFlexiblePinLaw" = some m.cls := findClass_of_methodNamed Bd.named
  have hnm := (name_of_methodNamed Bd.named Bd.method).1
  have X0 : Stand p l e room_1 s m #[(.int p1), (.int p2)] below meth c s₁ [] 0 0 := Stand.of_body Bd
  have e0 : s₁.heap = h0 := by rw [← hh, Bd.state]; rfl
  have N0 := Fr.nil n0
  have pre0 : ∀ t, Steps p.tables e below (s₁.setTop (mkF m 0 #[.val (.int p1), .val (.int p2), .unset, .unset, .unset, .unset, .unset, .unset, .unset] [])) t → Steps p.tables e below (s₁.setTop (entryFrame m #[(.int p1), (.int p2)] maxLocals)) t := fun t k => castTop (ef_0 m p1 p2) k
  have pre1 : ∀ t, Steps p.tables e below (s₁.setTop (mkF m 9 #[.val (.int p1), .val (.int p2), .val (.int ((p1 &&& (2147483647 : Int32)) % (25 : Int32))), .unset, .unset, .unset, .unset, .unset, .unset] [(.int ((p1 &&& (2147483647 : Int32)) % (25 : Int32)))])) t → Steps p.tables e below (s₁.setTop (entryFrame m #[(.int p1), (.int p2)] maxLocals)) t := by
    intro t kt
    refine pre0 t ?_
    show Steps p.tables e below (s₁.setTop (mkF m 0 #[.val (.int p1), .val (.int p2), .unset, .unset, .unset, .unset, .unset, .unset, .unset] [])) _
    refine XS.iloadN X0.here hx rfl (hb hby at_0) rfl ?_
    show Steps p.tables e below (s₁.setTop (mkF m 1 #[.val (.int p1), .val (.int p2), .unset, .unset, .unset, .unset, .unset, .unset, .unset] [(.int p1)])) _
    refine X0.ldcInt hx hown (mvT hZ (hw _ (List.mem_of_getElem? (i := 0) rfl))) (g := (mkF m 1 #[.val (.int p1), .val (.int p2), .unset, .unset, .unset, .unset, .unset, .unset, .unset] [(.int p1)])) rfl (hb hby at_1) _ ?_
    show Steps p.tables e below (s₁.setTop (mkF m 3 #[.val (.int p1), .val (.int p2), .unset, .unset, .unset, .unset, .unset, .unset, .unset] [(.int (2147483647 : Int32)), (.int p1)])) _
    refine XS.iand X0.here hx rfl (hb hby at_3) rfl ?_
    show Steps p.tables e below (s₁.setTop (mkF m 4 #[.val (.int p1), .val (.int p2), .unset, .unset, .unset, .unset, .unset, .unset, .unset] [(.int (p1 &&& (2147483647 : Int32)))])) _
    refine XS.bipush X0.here hx rfl (hb hby at_4) ?_
    show Steps p.tables e below (s₁.setTop (mkF m 6 #[.val (.int p1), .val (.int p2), .unset, .unset, .unset, .unset, .unset, .unset, .unset] [(.int (25 : Int32)), (.int (p1 &&& (2147483647 : Int32)))])) _
    refine iremM X0 hx rfl (hb hby at_6) rfl (by decide) ?_
    show Steps p.tables e below (s₁.setTop (mkF m 7 #[.val (.int p1), .val (.int p2), .unset, .unset, .unset, .unset, .unset, .unset, .unset] [(.int ((p1 &&& (2147483647 : Int32)) % (25 : Int32)))])) _
    refine XS.istoreN X0.here hx rfl (hb hby at_7) rfl (l' := #[.val (.int p1), .val (.int p2), .val (.int ((p1 &&& (2147483647 : Int32)) % (25 : Int32))), .unset, .unset, .unset, .unset, .unset, .unset]) rfl ?_
    show Steps p.tables e below (s₁.setTop (mkF m 8 #[.val (.int p1), .val (.int p2), .val (.int ((p1 &&& (2147483647 : Int32)) % (25 : Int32))), .unset, .unset, .unset, .unset, .unset, .unset] [])) _
    refine XS.iloadN X0.here hx rfl (hb hby at_8) rfl ?_
    exact kt
  obtain ⟨_, _, ⟨T2, L2, k2, n2⟩, -, X2, ⟨Lc2, hQ2, l2, y2, z2⟩, st2⟩ := Jvm.LawKit.callS X0 hx (y := (⟨"com/example/stierlin/stierlin/wire/ApiKeyIsFlexiblePinLaw", "pick", "(I)Lcom/example/stierlin/stierlin/wire/ApiKey;"⟩ : MethodName)) hown (mvT hZ (hw _ (List.mem_of_getElem? (i := 1) rfl))) (mvT hZ (hw _ (List.mem_of_getElem? (i := 2) rfl))) (mvT hZ (hw _ (List.mem_of_getElem? (i := 3) rfl))) (mvT hZ (hw _ (List.mem_of_getElem? (i := 4) rfl))) (by decide) (backOf (W := 0) (rm1 l Z a0 hw [] ((p1 &&& (2147483647 : Int32)) % (25 : Int32)) sf h0 n0 Z0 ST_PRODUCE ST_FETCH ST_LIST_OFFSETS ST_METADATA ST_OFFSET_COMMIT ST_OFFSET_FETCH ST_FIND_COORDINATOR ST_JOIN_GROUP ST_HEARTBEAT ST_LEAVE_GROUP ST_SYNC_GROUP ST_DESCRIBE_GROUPS ST_LIST_GROUPS ST_API_VERSIONS ST_CREATE_TOPICS ST_DELETE_TOPICS ST_INIT_PRODUCER_ID ST_DESCRIBE_CONFIGS ST_ALTER_CONFIGS ST_CREATE_PARTITIONS ST_DELETE_GROUPS ST_INCREMENTAL_ALTER_CONFIGS ST_OFFSET_DELETE ST_CLUSTER_SYNC ST_CHANGE_TOPIC) hZ (hw _ (List.mem_of_getElem? (i := 4) rfl)) (hw _ (List.mem_of_getElem? (i := 3) rfl)) (by decide) (by decide)) (g := (mkF m 9 #[.val (.int p1), .val (.int p2), .val (.int ((p1 &&& (2147483647 : Int32)) % (25 : Int32))), .unset, .unset, .unset, .unset, .unset, .unset] [(.int ((p1 &&& (2147483647 : Int32)) % (25 : Int32)))])) rfl (by rw [hml]; rfl) (argsL := [(.int ((p1 &&& (2147483647 : Int32)) % (25 : Int32)))]) (rest := []) (lenOf pd_0 rfl) rfl (by show 2 * 0 + _ ≤ _; exact Nat.le_of_eq rfl) (hb hby at_9) (fun _ _ => ⟨rfl, e0, (by decide : 0 + 0 ≤ _), (by decide : 0 + 0 ≤ _)⟩)
  dsimp only [Pt.U, Pt.locs, Pt.cells, Pt.slots] at X2 l2 y2 z2 st2 hQ2
  subst l2 y2 z2
  obtain ⟨rfl, N2q, e2⟩ := hQ2
  have N2 := Fr.app N0 N2q
  have pre2 : ∀ t, Steps p.tables e below (T2.setTop (mkF m 12 #[.val (.int p1), .val (.int p2), .val (.int ((p1 &&& (2147483647 : Int32)) % (25 : Int32))), .unset, .unset, .unset, .unset, .unset, .unset] [(.ref (sf (own_idx ((p1 &&& (2147483647 : Int32)) % (25 : Int32)))))])) t → Steps p.tables e below (s₁.setTop (entryFrame m #[(.int p1), (.int p2)] maxLocals)) t := fun t kt => pre1 t (st2 _ kt)
  have EK := hE (own_idx ((p1 &&& (2147483647 : Int32)) % (25 : Int32))) (own_idx_lt _)
  have FK := hF (own_idx ((p1 &&& (2147483647 : Int32)) % (25 : Int32))) (own_idx_lt _)
  have pre3 : ∀ t, Steps p.tables e below (T2.setTop (mkF m 14 #[.val (.int p1), .val (.int p2), .val (.int ((p1 &&& (2147483647 : Int32)) % (25 : Int32))), .val (.ref (sf (own_idx ((p1 &&& (2147483647 : Int32)) % (25 : Int32))))), .unset, .unset, .unset, .unset, .unset] [(.int ((p1 &&& (2147483647 : Int32)) % (25 : Int32)))])) t → Steps p.tables e below (s₁.setTop (entryFrame m #[(.int p1), (.int p2)] maxLocals)) t := by
    intro t kt
    refine pre2 t ?_
    show Steps p.tables e below (T2.setTop (mkF m 12 #[.val (.int p1), .val (.int p2), .val (.int ((p1 &&& (2147483647 : Int32)) % (25 : Int32))), .unset, .unset, .unset, .unset, .unset, .unset] [(.ref (sf (own_idx ((p1 &&& (2147483647 : Int32)) % (25 : Int32)))))])) _
    refine XS.astoreN X2.here hx rfl (hb hby at_12) rfl rfl (l' := #[.val (.int p1), .val (.int p2), .val (.int ((p1 &&& (2147483647 : Int32)) % (25 : Int32))), .val (.ref (sf (own_idx ((p1 &&& (2147483647 : Int32)) % (25 : Int32))))), .unset, .unset, .unset, .unset, .unset]) rfl ?_
    show Steps p.tables e below (T2.setTop (mkF m 13 #[.val (.int p1), .val (.int p2), .val (.int ((p1 &&& (2147483647 : Int32)) % (25 : Int32))), .val (.ref (sf (own_idx ((p1 &&& (2147483647 : Int32)) % (25 : Int32))))), .unset, .unset, .unset, .unset, .unset] [])) _
    refine XS.iloadN X2.here hx rfl (hb hby at_13) rfl ?_
    exact kt
  obtain ⟨_, _, ⟨T4, L4, k4, n4⟩, -, X4, ⟨Lc4, hQ4, l4, y4, z4⟩, st4⟩ := Jvm.LawKit.callS X2 hx (y := (⟨"com/example/stierlin/stierlin/wire/ApiKeyIsFlexiblePinLaw", "first", "(I)I"⟩ : MethodName)) hown (mvT hZ (hw _ (List.mem_of_getElem? (i := 8) rfl))) (mvT hZ (hw _ (List.mem_of_getElem? (i := 9) rfl))) (mvT hZ (hw _ (List.mem_of_getElem? (i := 3) rfl))) (mvT hZ (hw _ (List.mem_of_getElem? (i := 10) rfl))) (by decide) (backOf (W := 0) (rm2 l Z a0 hw [] ((p1 &&& (2147483647 : Int32)) % (25 : Int32)) h0 n0) hZ (hw _ (List.mem_of_getElem? (i := 10) rfl)) (hw _ (List.mem_of_getElem? (i := 3) rfl)) (by decide) (by decide)) (g := (mkF m 14 #[.val (.int p1), .val (.int p2), .val (.int ((p1 &&& (2147483647 : Int32)) % (25 : Int32))), .val (.ref (sf (own_idx ((p1 &&& (2147483647 : Int32)) % (25 : Int32))))), .unset, .unset, .unset, .unset, .unset] [(.int ((p1 &&& (2147483647 : Int32)) % (25 : Int32)))])) rfl (by rw [hml]; rfl) (argsL := [(.int ((p1 &&& (2147483647 : Int32)) % (25 : Int32)))]) (rest := []) (lenOf pd_1 rfl) rfl (by show 2 * 0 + _ ≤ _; exact Nat.le_of_eq rfl) (hb hby at_14) (fun _ _ => ⟨rfl, e2, (by decide : 0 + 0 ≤ _), (by decide : 0 + 0 ≤ _)⟩)
  dsimp only [Pt.U, Pt.locs, Pt.cells, Pt.slots] at X4 l4 y4 z4 st4 hQ4
  subst l4 y4 z4
  obtain ⟨rfl, N4q, e4⟩ := hQ4
  have N4 := Fr.app N2 N4q
  have pre4 : ∀ t, Steps p.tables e below (T4.setTop (mkF m 17 #[.val (.int p1), .val (.int p2), .val (.int ((p1 &&& (2147483647 : Int32)) % (25 : Int32))), .val (.ref (sf (own_idx ((p1 &&& (2147483647 : Int32)) % (25 : Int32))))), .unset, .unset, .unset, .unset, .unset] [(.int (own_f2 ((p1 &&& (2147483647 : Int32)) % (25 : Int32))))])) t → Steps p.tables e below (s₁.setTop (entryFrame m #[(.int p1), (.int p2)] maxLocals)) t := fun t kt => pre3 t (st4 _ kt)
  have pre5 : ∀ t, Steps p.tables e below (T4.setTop (mkF m 26 #[.val (.int p1), .val (.int p2), .val (.int ((p1 &&& (2147483647 : Int32)) % (25 : Int32))), .val (.ref (sf (own_idx ((p1 &&& (2147483647 : Int32)) % (25 : Int32))))), .val (.int (own_f2 ((p1 &&& (2147483647 : Int32)) % (25 : Int32)))), .val (.int (p2.toInt16.toInt32)), .unset, .unset, .unset] [(.int (p2.toInt16.toInt32)), (.ref (sf (own_idx ((p1 &&& (2147483647 : Int32)) % (25 : Int32)))))])) t → Steps p.tables e below (s₁.setTop (entryFrame m #[(.int p1), (.int p2)] maxLocals)) t := by
    intro t kt
    refine pre4 t ?_
    show Steps p.tables e below (T4.setTop (mkF m 17 #[.val (.int p1), .val (.int p2), .val (.int ((p1 &&& (2147483647 : Int32)) % (25 : Int32))), .val (.ref (sf (own_idx ((p1 &&& (2147483647 : Int32)) % (25 : Int32))))), .unset, .unset, .unset, .unset, .unset] [(.int (own_f2 ((p1 &&& (2147483647 : Int32)) % (25 : Int32))))])) _
    refine XS.istore X4.here hx rfl (hb hby at_17) rfl (l' := #[.val (.int p1), .val (.int p2), .val (.int ((p1 &&& (2147483647 : Int32)) % (25 : Int32))), .val (.ref (sf (own_idx ((p1 &&& (2147483647 : Int32)) % (25 : Int32))))), .val (.int (own_f2 ((p1 &&& (2147483647 : Int32)) % (25 : Int32)))), .unset, .unset, .unset, .unset]) rfl ?_
    show Steps p.tables e below (T4.setTop (mkF m 19 #[.val (.int p1), .val (.int p2), .val (.int ((p1 &&& (2147483647 : Int32)) % (25 : Int32))), .val (.ref (sf (own_idx ((p1 &&& (2147483647 : Int32)) % (25 : Int32))))), .val (.int (own_f2 ((p1 &&& (2147483647 : Int32)) % (25 : Int32)))), .unset, .unset, .unset, .unset] [])) _
    refine XS.iloadN X4.here hx rfl (hb hby at_19) rfl ?_
    show Steps p.tables e below (T4.setTop (mkF m 20 #[.val (.int p1), .val (.int p2), .val (.int ((p1 &&& (2147483647 : Int32)) % (25 : Int32))), .val (.ref (sf (own_idx ((p1 &&& (2147483647 : Int32)) % (25 : Int32))))), .val (.int (own_f2 ((p1 &&& (2147483647 : Int32)) % (25 : Int32)))), .unset, .unset, .unset, .unset] [(.int p2)])) _
    refine XS.i2s X4.here hx rfl (hb hby at_20) rfl ?_
    show Steps p.tables e below (T4.setTop (mkF m 21 #[.val (.int p1), .val (.int p2), .val (.int ((p1 &&& (2147483647 : Int32)) % (25 : Int32))), .val (.ref (sf (own_idx ((p1 &&& (2147483647 : Int32)) % (25 : Int32))))), .val (.int (own_f2 ((p1 &&& (2147483647 : Int32)) % (25 : Int32)))), .unset, .unset, .unset, .unset] [(.int (p2.toInt16.toInt32))])) _
    refine XS.istore X4.here hx rfl (hb hby at_21) rfl (l' := #[.val (.int p1), .val (.int p2), .val (.int ((p1 &&& (2147483647 : Int32)) % (25 : Int32))), .val (.ref (sf (own_idx ((p1 &&& (2147483647 : Int32)) % (25 : Int32))))), .val (.int (own_f2 ((p1 &&& (2147483647 : Int32)) % (25 : Int32)))), .val (.int (p2.toInt16.toInt32)), .unset, .unset, .unset]) rfl ?_
    show Steps p.tables e below (T4.setTop (mkF m 23 #[.val (.int p1), .val (.int p2), .val (.int ((p1 &&& (2147483647 : Int32)) % (25 : Int32))), .val (.ref (sf (own_idx ((p1 &&& (2147483647 : Int32)) % (25 : Int32))))), .val (.int (own_f2 ((p1 &&& (2147483647 : Int32)) % (25 : Int32)))), .val (.int (p2.toInt16.toInt32)), .unset, .unset, .unset] [])) _
    refine XS.aloadN X4.here hx rfl (hb hby at_23) rfl rfl ?_
    show Steps p.tables e below (T4.setTop (mkF m 24 #[.val (.int p1), .val (.int p2), .val (.int ((p1 &&& (2147483647 : Int32)) % (25 : Int32))), .val (.ref (sf (own_idx ((p1 &&& (2147483647 : Int32)) % (25 : Int32))))), .val (.int (own_f2 ((p1 &&& (2147483647 : Int32)) % (25 : Int32)))), .val (.int (p2.toInt16.toInt32)), .unset, .unset, .unset] [(.ref (sf (own_idx ((p1 &&& (2147483647 : Int32)) % (25 : Int32)))))])) _
    refine XS.iload X4.here hx rfl (hb hby at_24) rfl ?_
    exact kt
  obtain ⟨cq6, kq6, q6a, q6b, q6c⟩ := isOf hZ e4 EK
  obtain ⟨_, _, ⟨T6, L6, k6, n6⟩, -, X6, ⟨Lc6, hQ6, l6, y6, z6⟩, st6⟩ := X4.virtualBack hx (y := (⟨"com/example/stierlin/stierlin/wire/ApiKey", "isFlexible", "(S)Z"⟩ : MethodName)) (z := (⟨"com/example/stierlin/stierlin/wire/ApiKey", "isFlexible", "(S)Z"⟩ : MethodName)) hown (mvT hZ (hw _ (List.mem_of_getElem? (i := 11) rfl))) (mvT hZ (hw _ (List.mem_of_getElem? (i := 12) rfl))) (notFace_of_selects (args := #[]) (mvT hZ (hw _ (List.mem_of_getElem? (i := 14) rfl)))) (mvT hZ (hw _ (List.mem_of_getElem? (i := 14) rfl))) (mvT hZ (hw _ (List.mem_of_getElem? (i := 13) rfl))) (by decide) (backOf (W := 0) (rm3 l Z a0 hw [] (sf (own_idx ((p1 &&& (2147483647 : Int32)) % (25 : Int32)))) (p2.toInt16.toInt32) (own_val (own_idx ((p1 &&& (2147483647 : Int32)) % (25 : Int32)))) h0 n0 Z0 FK) hZ (hw _ (List.mem_of_getElem? (i := 15) rfl)) (hw _ (List.mem_of_getElem? (i := 6) rfl)) (by decide) (by decide)) q6a q6c (g := (mkF m 26 #[.val (.int p1), .val (.int p2), .val (.int ((p1 &&& (2147483647 : Int32)) % (25 : Int32))), .val (.ref (sf (own_idx ((p1 &&& (2147483647 : Int32)) % (25 : Int32))))), .val (.int (own_f2 ((p1 &&& (2147483647 : Int32)) % (25 : Int32)))), .val (.int (p2.toInt16.toInt32)), .unset, .unset, .unset] [(.int (p2.toInt16.toInt32)), (.ref (sf (own_idx ((p1 &&& (2147483647 : Int32)) % (25 : Int32)))))])) rfl (by rw [hml]; rfl) (Steps.refl _) (argsL := [(.int (p2.toInt16.toInt32))]) (rest := []) (lenOf pd_2 rfl) rfl (by show 2 * 0 + _ ≤ _; exact Nat.le_of_eq rfl) (hb hby at_26) (fun _ _ => ⟨rfl, e4, (by decide : 0 + 0 ≤ _), (by decide : 0 + 0 ≤ _)⟩)
  dsimp only [Pt.U, Pt.locs, Pt.cells, Pt.slots] at X6 l6 y6 z6 st6 hQ6
  subst l6 y6 z6
  obtain ⟨rfl, N6q, e6⟩ := hQ6
  have N6 := Fr.app N4 N6q
  have pre6 : ∀ t, Steps p.tables e below (T6.setTop (mkF m 29 #[.val (.int p1), .val (.int p2), .val (.int ((p1 &&& (2147483647 : Int32)) % (25 : Int32))), .val (.ref (sf (own_idx ((p1 &&& (2147483647 : Int32)) % (25 : Int32))))), .val (.int (own_f2 ((p1 &&& (2147483647 : Int32)) % (25 : Int32)))), .val (.int (p2.toInt16.toInt32)), .unset, .unset, .unset] [(.int (own_flex (p2.toInt16.toInt32) (own_val (own_idx ((p1 &&& (2147483647 : Int32)) % (25 : Int32))))))])) t → Steps p.tables e below (s₁.setTop (entryFrame m #[(.int p1), (.int p2)] maxLocals)) t := fun t kt => pre5 t (st6.trans kt)
  have pre7 : ∀ t, Steps p.tables e below (T6.setTop (mkF m 33 #[.val (.int p1), .val (.int p2), .val (.int ((p1 &&& (2147483647 : Int32)) % (25 : Int32))), .val (.ref (sf (own_idx ((p1 &&& (2147483647 : Int32)) % (25 : Int32))))), .val (.int (own_f2 ((p1 &&& (2147483647 : Int32)) % (25 : Int32)))), .val (.int (p2.toInt16.toInt32)), .unset, .unset, .unset] [(.int (own_f2 ((p1 &&& (2147483647 : Int32)) % (25 : Int32)))), (.int (p2.toInt16.toInt32)), (.int (own_flex (p2.toInt16.toInt32) (own_val (own_idx ((p1 &&& (2147483647 : Int32)) % (25 : Int32))))))])) t → Steps p.tables e below (s₁.setTop (entryFrame m #[(.int p1), (.int p2)] maxLocals)) t := by
    intro t kt
    refine pre6 t ?_
    show Steps p.tables e below (T6.setTop (mkF m 29 #[.val (.int p1), .val (.int p2), .val (.int ((p1 &&& (2147483647 : Int32)) % (25 : Int32))), .val (.ref (sf (own_idx ((p1 &&& (2147483647 : Int32)) % (25 : Int32))))), .val (.int (own_f2 ((p1 &&& (2147483647 : Int32)) % (25 : Int32)))), .val (.int (p2.toInt16.toInt32)), .unset, .unset, .unset] [(.int (own_flex (p2.toInt16.toInt32) (own_val (own_idx ((p1 &&& (2147483647 : Int32)) % (25 : Int32))))))])) _
    refine XS.iload X6.here hx rfl (hb hby at_29) rfl ?_
    show Steps p.tables e below (T6.setTop (mkF m 31 #[.val (.int p1), .val (.int p2), .val (.int ((p1 &&& (2147483647 : Int32)) % (25 : Int32))), .val (.ref (sf (own_idx ((p1 &&& (2147483647 : Int32)) % (25 : Int32))))), .val (.int (own_f2 ((p1 &&& (2147483647 : Int32)) % (25 : Int32)))), .val (.int (p2.toInt16.toInt32)), .unset, .unset, .unset] [(.int (p2.toInt16.toInt32)), (.int (own_flex (p2.toInt16.toInt32) (own_val (own_idx ((p1 &&& (2147483647 : Int32)) % (25 : Int32))))))])) _
    refine XS.iload X6.here hx rfl (hb hby at_31) rfl ?_
    exact kt
  obtain ⟨v8_0, hv8_0, pre8⟩ : ∃ (v8_0 : Int32), v8_0 = (if (p2.toInt16.toInt32) < (own_f2 ((p1 &&& (2147483647 : Int32)) % (25 : Int32))) then (0 : Int32) else (1 : Int32)) ∧ ∀ t, Steps p.tables e below (T6.setTop (mkF m 41 #[.val (.int p1), .val (.int p2), .val (.int ((p1 &&& (2147483647 : Int32)) % (25 : Int32))), .val (.ref (sf (own_idx ((p1 &&& (2147483647 : Int32)) % (25 : Int32))))), .val (.int (own_f2 ((p1 &&& (2147483647 : Int32)) % (25 : Int32)))), .val (.int (p2.toInt16.toInt32)), .unset, .unset, .unset] [(.int v8_0), (.int (own_flex (p2.toInt16.toInt32) (own_val (own_idx ((p1 &&& (2147483647 : Int32)) % (25 : Int32))))))])) t → Steps p.tables e below (s₁.setTop (entryFrame m #[(.int p1), (.int p2)] maxLocals)) t := by
    refine ⟨_, rfl, ?_⟩
    intro t kt
    refine pre7 t ?_
    show Steps p.tables e below (T6.setTop (mkF m 33 #[.val (.int p1), .val (.int p2), .val (.int ((p1 &&& (2147483647 : Int32)) % (25 : Int32))), .val (.ref (sf (own_idx ((p1 &&& (2147483647 : Int32)) % (25 : Int32))))), .val (.int (own_f2 ((p1 &&& (2147483647 : Int32)) % (25 : Int32)))), .val (.int (p2.toInt16.toInt32)), .unset, .unset, .unset] [(.int (own_f2 ((p1 &&& (2147483647 : Int32)) % (25 : Int32)))), (.int (p2.toInt16.toInt32)), (.int (own_flex (p2.toInt16.toInt32) (own_val (own_idx ((p1 &&& (2147483647 : Int32)) % (25 : Int32))))))])) _
    by_cases hc33 : (p2.toInt16.toInt32) < (own_f2 ((p1 &&& (2147483647 : Int32)) % (25 : Int32)))
    · (try simp only [if_pos hc33] at kt)
      refine XS.icmpYes X6.here hx rfl (pc0 := 33) (pc' := 40) rfl (hb hby at_33) rfl (tlt hc33).1 (by decide) (by decide) ?_
      show Steps p.tables e below (T6.setTop (mkF m 40 #[.val (.int p1), .val (.int p2), .val (.int ((p1 &&& (2147483647 : Int32)) % (25 : Int32))), .val (.ref (sf (own_idx ((p1 &&& (2147483647 : Int32)) % (25 : Int32))))), .val (.int (own_f2 ((p1 &&& (2147483647 : Int32)) % (25 : Int32)))), .val (.int (p2.toInt16.toInt32)), .unset, .unset, .unset] [(.int (own_flex (p2.toInt16.toInt32) (own_val (own_idx ((p1 &&& (2147483647 : Int32)) % (25 : Int32))))))])) _
      refine XS.iconst X6.here hx rfl (hb hby at_40) ?_
      exact kt
    · (try simp only [if_neg hc33] at kt)
      refine XS.icmpNo X6.here hx rfl (hb hby at_33) rfl (flt hc33).1 ?_
      show Steps p.tables e below (T6.setTop (mkF m 36 #[.val (.int p1), .val (.int p2), .val (.int ((p1 &&& (2147483647 : Int32)) % (25 : Int32))), .val (.ref (sf (own_idx ((p1 &&& (2147483647 : Int32)) % (25 : Int32))))), .val (.int (own_f2 ((p1 &&& (2147483647 : Int32)) % (25 : Int32)))), .val (.int (p2.toInt16.toInt32)), .unset, .unset, .unset] [(.int (own_flex (p2.toInt16.toInt32) (own_val (own_idx ((p1 &&& (2147483647 : Int32)) % (25 : Int32))))))])) _
      refine XS.iconst X6.here hx rfl (hb hby at_36) ?_
      show Steps p.tables e below (T6.setTop (mkF m 37 #[.val (.int p1), .val (.int p2), .val (.int ((p1 &&& (2147483647 : Int32)) % (25 : Int32))), .val (.ref (sf (own_idx ((p1 &&& (2147483647 : Int32)) % (25 : Int32))))), .val (.int (own_f2 ((p1 &&& (2147483647 : Int32)) % (25 : Int32)))), .val (.int (p2.toInt16.toInt32)), .unset, .unset, .unset] [(.int (1 : Int32)), (.int (own_flex (p2.toInt16.toInt32) (own_val (own_idx ((p1 &&& (2147483647 : Int32)) % (25 : Int32))))))])) _
      refine XS.goto X6.here hx rfl (pc0 := 37) (pc' := 41) rfl (hb hby at_37) (by decide) (by decide) ?_
      exact kt
  obtain ⟨v9_0, hv9_0, pre9⟩ : ∃ (v9_0 : Int32), v9_0 = (if (own_flex (p2.toInt16.toInt32) (own_val (own_idx ((p1 &&& (2147483647 : Int32)) % (25 : Int32))))) = v8_0 then (1 : Int32) else (0 : Int32)) ∧ ∀ t, Steps p.tables e below (T6.setTop (mkF m 49 #[.val (.int p1), .val (.int p2), .val (.int ((p1 &&& (2147483647 : Int32)) % (25 : Int32))), .val (.ref (sf (own_idx ((p1 &&& (2147483647 : Int32)) % (25 : Int32))))), .val (.int (own_f2 ((p1 &&& (2147483647 : Int32)) % (25 : Int32)))), .val (.int (p2.toInt16.toInt32)), .unset, .unset, .unset] [(.int v9_0)])) t → Steps p.tables e below (s₁.setTop (entryFrame m #[(.int p1), (.int p2)] maxLocals)) t := by
    refine ⟨_, rfl, ?_⟩
    intro t kt
    refine pre8 t ?_
    show Steps p.tables e below (T6.setTop (mkF m 41 #[.val (.int p1), .val (.int p2), .val (.int ((p1 &&& (2147483647 : Int32)) % (25 : Int32))), .val (.ref (sf (own_idx ((p1 &&& (2147483647 : Int32)) % (25 : Int32))))), .val (.int (own_f2 ((p1 &&& (2147483647 : Int32)) % (25 : Int32)))), .val (.int (p2.toInt16.toInt32)), .unset, .unset, .unset] [(.int v8_0), (.int (own_flex (p2.toInt16.toInt32) (own_val (own_idx ((p1 &&& (2147483647 : Int32)) % (25 : Int32))))))])) _
    by_cases hc41 : (own_flex (p2.toInt16.toInt32) (own_val (own_idx ((p1 &&& (2147483647 : Int32)) % (25 : Int32))))) = v8_0
    · (try simp only [if_pos hc41] at kt)
      refine XS.icmpNo X6.here hx rfl (hb hby at_41) rfl (teq hc41).2 ?_
      show Steps p.tables e below (T6.setTop (mkF m 44 #[.val (.int p1), .val (.int p2), .val (.int ((p1 &&& (2147483647 : Int32)) % (25 : Int32))), .val (.ref (sf (own_idx ((p1 &&& (2147483647 : Int32)) % (25 : Int32))))), .val (.int (own_f2 ((p1 &&& (2147483647 : Int32)) % (25 : Int32)))), .val (.int (p2.toInt16.toInt32)), .unset, .unset, .unset] [])) _
      refine XS.iconst X6.here hx rfl (hb hby at_44) ?_
      show Steps p.tables e below (T6.setTop (mkF m 45 #[.val (.int p1), .val (.int p2), .val (.int ((p1 &&& (2147483647 : Int32)) % (25 : Int32))), .val (.ref (sf (own_idx ((p1 &&& (2147483647 : Int32)) % (25 : Int32))))), .val (.int (own_f2 ((p1 &&& (2147483647 : Int32)) % (25 : Int32)))), .val (.int (p2.toInt16.toInt32)), .unset, .unset, .unset] [(.int (1 : Int32))])) _
      refine XS.goto X6.here hx rfl (pc0 := 45) (pc' := 49) rfl (hb hby at_45) (by decide) (by decide) ?_
      exact kt
    · (try simp only [if_neg hc41] at kt)
      refine XS.icmpYes X6.here hx rfl (pc0 := 41) (pc' := 48) rfl (hb hby at_41) rfl (feq hc41).2 (by decide) (by decide) ?_
      show Steps p.tables e below (T6.setTop (mkF m 48 #[.val (.int p1), .val (.int p2), .val (.int ((p1 &&& (2147483647 : Int32)) % (25 : Int32))), .val (.ref (sf (own_idx ((p1 &&& (2147483647 : Int32)) % (25 : Int32))))), .val (.int (own_f2 ((p1 &&& (2147483647 : Int32)) % (25 : Int32)))), .val (.int (p2.toInt16.toInt32)), .unset, .unset, .unset] [])) _
      refine XS.iconst X6.here hx rfl (hb hby at_48) ?_
      exact kt
  have pre10 : ∀ t, Steps p.tables e below (T6.setTop (mkF m 55 #[.val (.int p1), .val (.int p2), .val (.int ((p1 &&& (2147483647 : Int32)) % (25 : Int32))), .val (.ref (sf (own_idx ((p1 &&& (2147483647 : Int32)) % (25 : Int32))))), .val (.int (own_f2 ((p1 &&& (2147483647 : Int32)) % (25 : Int32)))), .val (.int (p2.toInt16.toInt32)), .val (.int v9_0), .unset, .unset] [(.int ((own_f2 ((p1 &&& (2147483647 : Int32)) % (25 : Int32))).toInt16.toInt32)), (.ref (sf (own_idx ((p1 &&& (2147483647 : Int32)) % (25 : Int32)))))])) t → Steps p.tables e below (s₁.setTop (entryFrame m #[(.int p1), (.int p2)] maxLocals)) t := by
    intro t kt
    refine pre9 t ?_
    show Steps p.tables e below (T6.setTop (mkF m 49 #[.val (.int p1), .val (.int p2), .val (.int ((p1 &&& (2147483647 : Int32)) % (25 : Int32))), .val (.ref (sf (own_idx ((p1 &&& (2147483647 : Int32)) % (25 : Int32))))), .val (.int (own_f2 ((p1 &&& (2147483647 : Int32)) % (25 : Int32)))), .val (.int (p2.toInt16.toInt32)), .unset, .unset, .unset] [(.int v9_0)])) _
    refine XS.istore X6.here hx rfl (hb hby at_49) rfl (l' := #[.val (.int p1), .val (.int p2), .val (.int ((p1 &&& (2147483647 : Int32)) % (25 : Int32))), .val (.ref (sf (own_idx ((p1 &&& (2147483647 : Int32)) % (25 : Int32))))), .val (.int (own_f2 ((p1 &&& (2147483647 : Int32)) % (25 : Int32)))), .val (.int (p2.toInt16.toInt32)), .val (.int v9_0), .unset, .unset]) rfl ?_
    show Steps p.tables e below (T6.setTop (mkF m 51 #[.val (.int p1), .val (.int p2), .val (.int ((p1 &&& (2147483647 : Int32)) % (25 : Int32))), .val (.ref (sf (own_idx ((p1 &&& (2147483647 : Int32)) % (25 : Int32))))), .val (.int (own_f2 ((p1 &&& (2147483647 : Int32)) % (25 : Int32)))), .val (.int (p2.toInt16.toInt32)), .val (.int v9_0), .unset, .unset] [])) _
    refine XS.aloadN X6.here hx rfl (hb hby at_51) rfl rfl ?_
    show Steps p.tables e below (T6.setTop (mkF m 52 #[.val (.int p1), .val (.int p2), .val (.int ((p1 &&& (2147483647 : Int32)) % (25 : Int32))), .val (.ref (sf (own_idx ((p1 &&& (2147483647 : Int32)) % (25 : Int32))))), .val (.int (own_f2 ((p1 &&& (2147483647 : Int32)) % (25 : Int32)))), .val (.int (p2.toInt16.toInt32)), .val (.int v9_0), .unset, .unset] [(.ref (sf (own_idx ((p1 &&& (2147483647 : Int32)) % (25 : Int32)))))])) _
    refine XS.iload X6.here hx rfl (hb hby at_52) rfl ?_
    show Steps p.tables e below (T6.setTop (mkF m 54 #[.val (.int p1), .val (.int p2), .val (.int ((p1 &&& (2147483647 : Int32)) % (25 : Int32))), .val (.ref (sf (own_idx ((p1 &&& (2147483647 : Int32)) % (25 : Int32))))), .val (.int (own_f2 ((p1 &&& (2147483647 : Int32)) % (25 : Int32)))), .val (.int (p2.toInt16.toInt32)), .val (.int v9_0), .unset, .unset] [(.int (own_f2 ((p1 &&& (2147483647 : Int32)) % (25 : Int32)))), (.ref (sf (own_idx ((p1 &&& (2147483647 : Int32)) % (25 : Int32)))))])) _
    refine XS.i2s X6.here hx rfl (hb hby at_54) rfl ?_
    exact kt
  obtain ⟨cq11, kq11, q11a, q11b, q11c⟩ := isOf hZ e6 EK
  obtain ⟨_, _, ⟨T11, L11, k11, n11⟩, -, X11, ⟨Lc11, hQ11, l11, y11, z11⟩, st11⟩ := X6.virtualBack hx (y := (⟨"com/example/stierlin/stierlin/wire/ApiKey", "isFlexible", "(S)Z"⟩ : MethodName)) (z := (⟨"com/example/stierlin/stierlin/wire/ApiKey", "isFlexible", "(S)Z"⟩ : MethodName)) hown (mvT hZ (hw _ (List.mem_of_getElem? (i := 11) rfl))) (mvT hZ (hw _ (List.mem_of_getElem? (i := 12) rfl))) (notFace_of_selects (args := #[]) (mvT hZ (hw _ (List.mem_of_getElem? (i := 14) rfl)))) (mvT hZ (hw _ (List.mem_of_getElem? (i := 14) rfl))) (mvT hZ (hw _ (List.mem_of_getElem? (i := 13) rfl))) (by decide) (backOf (W := 0) (rm3 l Z a0 hw [] (sf (own_idx ((p1 &&& (2147483647 : Int32)) % (25 : Int32)))) ((own_f2 ((p1 &&& (2147483647 : Int32)) % (25 : Int32))).toInt16.toInt32) (own_val (own_idx ((p1 &&& (2147483647 : Int32)) % (25 : Int32)))) h0 n0 Z0 FK) hZ (hw _ (List.mem_of_getElem? (i := 15) rfl)) (hw _ (List.mem_of_getElem? (i := 6) rfl)) (by decide) (by decide)) q11a q11c (g := (mkF m 55 #[.val (.int p1), .val (.int p2), .val (.int ((p1 &&& (2147483647 : Int32)) % (25 : Int32))), .val (.ref (sf (own_idx ((p1 &&& (2147483647 : Int32)) % (25 : Int32))))), .val (.int (own_f2 ((p1 &&& (2147483647 : Int32)) % (25 : Int32)))), .val (.int (p2.toInt16.toInt32)), .val (.int v9_0), .unset, .unset] [(.int ((own_f2 ((p1 &&& (2147483647 : Int32)) % (25 : Int32))).toInt16.toInt32)), (.ref (sf (own_idx ((p1 &&& (2147483647 : Int32)) % (25 : Int32)))))])) rfl (by rw [hml]; rfl) (Steps.refl _) (argsL := [(.int ((own_f2 ((p1 &&& (2147483647 : Int32)) % (25 : Int32))).toInt16.toInt32))]) (rest := []) (lenOf pd_2 rfl) rfl (by show 2 * 0 + _ ≤ _; exact Nat.le_of_eq rfl) (hb hby at_55) (fun _ _ => ⟨rfl, e6, (by decide : 0 + 0 ≤ _), (by decide : 0 + 0 ≤ _)⟩)
  dsimp only [Pt.U, Pt.locs, Pt.cells, Pt.slots] at X11 l11 y11 z11 st11 hQ11
  subst l11 y11 z11
  obtain ⟨rfl, N11q, e11⟩ := hQ11
  have N11 := Fr.app N6 N11q
  have pre11 : ∀ t, Steps p.tables e below (T11.setTop (mkF m 58 #[.val (.int p1), .val (.int p2), .val (.int ((p1 &&& (2147483647 : Int32)) % (25 : Int32))), .val (.ref (sf (own_idx ((p1 &&& (2147483647 : Int32)) % (25 : Int32))))), .val (.int (own_f2 ((p1 &&& (2147483647 : Int32)) % (25 : Int32)))), .val (.int (p2.toInt16.toInt32)), .val (.int v9_0), .unset, .unset] [(.int (own_flex ((own_f2 ((p1 &&& (2147483647 : Int32)) % (25 : Int32))).toInt16.toInt32) (own_val (own_idx ((p1 &&& (2147483647 : Int32)) % (25 : Int32))))))])) t → Steps p.tables e below (s₁.setTop (entryFrame m #[(.int p1), (.int p2)] maxLocals)) t := fun t kt => pre10 t (st11.trans kt)
  have pre12 : ∀ t, Steps p.tables e below (T11.setTop (mkF m 66 #[.val (.int p1), .val (.int p2), .val (.int ((p1 &&& (2147483647 : Int32)) % (25 : Int32))), .val (.ref (sf (own_idx ((p1 &&& (2147483647 : Int32)) % (25 : Int32))))), .val (.int (own_f2 ((p1 &&& (2147483647 : Int32)) % (25 : Int32)))), .val (.int (p2.toInt16.toInt32)), .val (.int v9_0), .val (.int (own_flex ((own_f2 ((p1 &&& (2147483647 : Int32)) % (25 : Int32))).toInt16.toInt32) (own_val (own_idx ((p1 &&& (2147483647 : Int32)) % (25 : Int32)))))), .unset] [(.int (((own_f2 ((p1 &&& (2147483647 : Int32)) % (25 : Int32))) - (1 : Int32)).toInt16.toInt32)), (.ref (sf (own_idx ((p1 &&& (2147483647 : Int32)) % (25 : Int32)))))])) t → Steps p.tables e below (s₁.setTop (entryFrame m #[(.int p1), (.int p2)] maxLocals)) t := by
    intro t kt
    refine pre11 t ?_
    show Steps p.tables e below (T11.setTop (mkF m 58 #[.val (.int p1), .val (.int p2), .val (.int ((p1 &&& (2147483647 : Int32)) % (25 : Int32))), .val (.ref (sf (own_idx ((p1 &&& (2147483647 : Int32)) % (25 : Int32))))), .val (.int (own_f2 ((p1 &&& (2147483647 : Int32)) % (25 : Int32)))), .val (.int (p2.toInt16.toInt32)), .val (.int v9_0), .unset, .unset] [(.int (own_flex ((own_f2 ((p1 &&& (2147483647 : Int32)) % (25 : Int32))).toInt16.toInt32) (own_val (own_idx ((p1 &&& (2147483647 : Int32)) % (25 : Int32))))))])) _
    refine XS.istore X11.here hx rfl (hb hby at_58) rfl (l' := #[.val (.int p1), .val (.int p2), .val (.int ((p1 &&& (2147483647 : Int32)) % (25 : Int32))), .val (.ref (sf (own_idx ((p1 &&& (2147483647 : Int32)) % (25 : Int32))))), .val (.int (own_f2 ((p1 &&& (2147483647 : Int32)) % (25 : Int32)))), .val (.int (p2.toInt16.toInt32)), .val (.int v9_0), .val (.int (own_flex ((own_f2 ((p1 &&& (2147483647 : Int32)) % (25 : Int32))).toInt16.toInt32) (own_val (own_idx ((p1 &&& (2147483647 : Int32)) % (25 : Int32)))))), .unset]) rfl ?_
    show Steps p.tables e below (T11.setTop (mkF m 60 #[.val (.int p1), .val (.int p2), .val (.int ((p1 &&& (2147483647 : Int32)) % (25 : Int32))), .val (.ref (sf (own_idx ((p1 &&& (2147483647 : Int32)) % (25 : Int32))))), .val (.int (own_f2 ((p1 &&& (2147483647 : Int32)) % (25 : Int32)))), .val (.int (p2.toInt16.toInt32)), .val (.int v9_0), .val (.int (own_flex ((own_f2 ((p1 &&& (2147483647 : Int32)) % (25 : Int32))).toInt16.toInt32) (own_val (own_idx ((p1 &&& (2147483647 : Int32)) % (25 : Int32)))))), .unset] [])) _
    refine XS.aloadN X11.here hx rfl (hb hby at_60) rfl rfl ?_
    show Steps p.tables e below (T11.setTop (mkF m 61 #[.val (.int p1), .val (.int p2), .val (.int ((p1 &&& (2147483647 : Int32)) % (25 : Int32))), .val (.ref (sf (own_idx ((p1 &&& (2147483647 : Int32)) % (25 : Int32))))), .val (.int (own_f2 ((p1 &&& (2147483647 : Int32)) % (25 : Int32)))), .val (.int (p2.toInt16.toInt32)), .val (.int v9_0), .val (.int (own_flex ((own_f2 ((p1 &&& (2147483647 : Int32)) % (25 : Int32))).toInt16.toInt32) (own_val (own_idx ((p1 &&& (2147483647 : Int32)) % (25 : Int32)))))), .unset] [(.ref (sf (own_idx ((p1 &&& (2147483647 : Int32)) % (25 : Int32)))))])) _
    refine XS.iload X11.here hx rfl (hb hby at_61) rfl ?_
    show Steps p.tables e below (T11.setTop (mkF m 63 #[.val (.int p1), .val (.int p2), .val (.int ((p1 &&& (2147483647 : Int32)) % (25 : Int32))), .val (.ref (sf (own_idx ((p1 &&& (2147483647 : Int32)) % (25 : Int32))))), .val (.int (own_f2 ((p1 &&& (2147483647 : Int32)) % (25 : Int32)))), .val (.int (p2.toInt16.toInt32)), .val (.int v9_0), .val (.int (own_flex ((own_f2 ((p1 &&& (2147483647 : Int32)) % (25 : Int32))).toInt16.toInt32) (own_val (own_idx ((p1 &&& (2147483647 : Int32)) % (25 : Int32)))))), .unset] [(.int (own_f2 ((p1 &&& (2147483647 : Int32)) % (25 : Int32)))), (.ref (sf (own_idx ((p1 &&& (2147483647 : Int32)) % (25 : Int32)))))])) _
    refine XS.iconst X11.here hx rfl (hb hby at_63) ?_
    show Steps p.tables e below (T11.setTop (mkF m 64 #[.val (.int p1), .val (.int p2), .val (.int ((p1 &&& (2147483647 : Int32)) % (25 : Int32))), .val (.ref (sf (own_idx ((p1 &&& (2147483647 : Int32)) % (25 : Int32))))), .val (.int (own_f2 ((p1 &&& (2147483647 : Int32)) % (25 : Int32)))), .val (.int (p2.toInt16.toInt32)), .val (.int v9_0), .val (.int (own_flex ((own_f2 ((p1 &&& (2147483647 : Int32)) % (25 : Int32))).toInt16.toInt32) (own_val (own_idx ((p1 &&& (2147483647 : Int32)) % (25 : Int32)))))), .unset] [(.int (1 : Int32)), (.int (own_f2 ((p1 &&& (2147483647 : Int32)) % (25 : Int32)))), (.ref (sf (own_idx ((p1 &&& (2147483647 : Int32)) % (25 : Int32)))))])) _
    refine XS.isub X11.here hx rfl (hb hby at_64) rfl ?_
    show Steps p.tables e below (T11.setTop (mkF m 65 #[.val (.int p1), .val (.int p2), .val (.int ((p1 &&& (2147483647 : Int32)) % (25 : Int32))), .val (.ref (sf (own_idx ((p1 &&& (2147483647 : Int32)) % (25 : Int32))))), .val (.int (own_f2 ((p1 &&& (2147483647 : Int32)) % (25 : Int32)))), .val (.int (p2.toInt16.toInt32)), .val (.int v9_0), .val (.int (own_flex ((own_f2 ((p1 &&& (2147483647 : Int32)) % (25 : Int32))).toInt16.toInt32) (own_val (own_idx ((p1 &&& (2147483647 : Int32)) % (25 : Int32)))))), .unset] [(.int ((own_f2 ((p1 &&& (2147483647 : Int32)) % (25 : Int32))) - (1 : Int32))), (.ref (sf (own_idx ((p1 &&& (2147483647 : Int32)) % (25 : Int32)))))])) _
    refine XS.i2s X11.here hx rfl (hb hby at_65) rfl ?_
    exact kt
  obtain ⟨cq13, kq13, q13a, q13b, q13c⟩ := isOf hZ e11 EK
  obtain ⟨_, _, ⟨T13, L13, k13, n13⟩, -, X13, ⟨Lc13, hQ13, l13, y13, z13⟩, st13⟩ := X11.virtualBack hx (y := (⟨"com/example/stierlin/stierlin/wire/ApiKey", "isFlexible", "(S)Z"⟩ : MethodName)) (z := (⟨"com/example/stierlin/stierlin/wire/ApiKey", "isFlexible", "(S)Z"⟩ : MethodName)) hown (mvT hZ (hw _ (List.mem_of_getElem? (i := 11) rfl))) (mvT hZ (hw _ (List.mem_of_getElem? (i := 12) rfl))) (notFace_of_selects (args := #[]) (mvT hZ (hw _ (List.mem_of_getElem? (i := 14) rfl)))) (mvT hZ (hw _ (List.mem_of_getElem? (i := 14) rfl))) (mvT hZ (hw _ (List.mem_of_getElem? (i := 13) rfl))) (by decide) (backOf (W := 0) (rm3 l Z a0 hw [] (sf (own_idx ((p1 &&& (2147483647 : Int32)) % (25 : Int32)))) (((own_f2 ((p1 &&& (2147483647 : Int32)) % (25 : Int32))) - (1 : Int32)).toInt16.toInt32) (own_val (own_idx ((p1 &&& (2147483647 : Int32)) % (25 : Int32)))) h0 n0 Z0 FK) hZ (hw _ (List.mem_of_getElem? (i := 15) rfl)) (hw _ (List.mem_of_getElem? (i := 6) rfl)) (by decide) (by decide)) q13a q13c (g := (mkF m 66 #[.val (.int p1), .val (.int p2), .val (.int ((p1 &&& (2147483647 : Int32)) % (25 : Int32))), .val (.ref (sf (own_idx ((p1 &&& (2147483647 : Int32)) % (25 : Int32))))), .val (.int (own_f2 ((p1 &&& (2147483647 : Int32)) % (25 : Int32)))), .val (.int (p2.toInt16.toInt32)), .val (.int v9_0), .val (.int (own_flex ((own_f2 ((p1 &&& (2147483647 : Int32)) % (25 : Int32))).toInt16.toInt32) (own_val (own_idx ((p1 &&& (2147483647 : Int32)) % (25 : Int32)))))), .unset] [(.int (((own_f2 ((p1 &&& (2147483647 : Int32)) % (25 : Int32))) - (1 : Int32)).toInt16.toInt32)), (.ref (sf (own_idx ((p1 &&& (2147483647 : Int32)) % (25 : Int32)))))])) rfl (by rw [hml]; rfl) (Steps.refl _) (argsL := [(.int (((own_f2 ((p1 &&& (2147483647 : Int32)) % (25 : Int32))) - (1 : Int32)).toInt16.toInt32))]) (rest := []) (lenOf pd_2 rfl) rfl (by show 2 * 0 + _ ≤ _; exact Nat.le_of_eq rfl) (hb hby at_66) (fun _ _ => ⟨rfl, e11, (by decide : 0 + 0 ≤ _), (by decide : 0 + 0 ≤ _)⟩)
  dsimp only [Pt.U, Pt.locs, Pt.cells, Pt.slots] at X13 l13 y13 z13 st13 hQ13
  subst l13 y13 z13
  obtain ⟨rfl, N13q, e13⟩ := hQ13
  have N13 := Fr.app N11 N13q
  have pre13 : ∀ t, Steps p.tables e below (T13.setTop (mkF m 69 #[.val (.int p1), .val (.int p2), .val (.int ((p1 &&& (2147483647 : Int32)) % (25 : Int32))), .val (.ref (sf (own_idx ((p1 &&& (2147483647 : Int32)) % (25 : Int32))))), .val (.int (own_f2 ((p1 &&& (2147483647 : Int32)) % (25 : Int32)))), .val (.int (p2.toInt16.toInt32)), .val (.int v9_0), .val (.int (own_flex ((own_f2 ((p1 &&& (2147483647 : Int32)) % (25 : Int32))).toInt16.toInt32) (own_val (own_idx ((p1 &&& (2147483647 : Int32)) % (25 : Int32)))))), .unset] [(.int (own_flex (((own_f2 ((p1 &&& (2147483647 : Int32)) % (25 : Int32))) - (1 : Int32)).toInt16.toInt32) (own_val (own_idx ((p1 &&& (2147483647 : Int32)) % (25 : Int32))))))])) t → Steps p.tables e below (s₁.setTop (entryFrame m #[(.int p1), (.int p2)] maxLocals)) t := fun t kt => pre12 t (st13.trans kt)
  obtain ⟨v14_0, hv14_0, pre14⟩ : ∃ (v14_0 : Int32), v14_0 = (if (own_flex (((own_f2 ((p1 &&& (2147483647 : Int32)) % (25 : Int32))) - (1 : Int32)).toInt16.toInt32) (own_val (own_idx ((p1 &&& (2147483647 : Int32)) % (25 : Int32))))) = (0 : Int32) then (1 : Int32) else (0 : Int32)) ∧ ∀ t, Steps p.tables e below (T13.setTop (mkF m 77 #[.val (.int p1), .val (.int p2), .val (.int ((p1 &&& (2147483647 : Int32)) % (25 : Int32))), .val (.ref (sf (own_idx ((p1 &&& (2147483647 : Int32)) % (25 : Int32))))), .val (.int (own_f2 ((p1 &&& (2147483647 : Int32)) % (25 : Int32)))), .val (.int (p2.toInt16.toInt32)), .val (.int v9_0), .val (.int (own_flex ((own_f2 ((p1 &&& (2147483647 : Int32)) % (25 : Int32))).toInt16.toInt32) (own_val (own_idx ((p1 &&& (2147483647 : Int32)) % (25 : Int32)))))), .unset] [(.int v14_0)])) t → Steps p.tables e below (s₁.setTop (entryFrame m #[(.int p1), (.int p2)] maxLocals)) t := by
    refine ⟨_, rfl, ?_⟩
    intro t kt
    refine pre13 t ?_
    show Steps p.tables e below (T13.setTop (mkF m 69 #[.val (.int p1), .val (.int p2), .val (.int ((p1 &&& (2147483647 : Int32)) % (25 : Int32))), .val (.ref (sf (own_idx ((p1 &&& (2147483647 : Int32)) % (25 : Int32))))), .val (.int (own_f2 ((p1 &&& (2147483647 : Int32)) % (25 : Int32)))), .val (.int (p2.toInt16.toInt32)), .val (.int v9_0), .val (.int (own_flex ((own_f2 ((p1 &&& (2147483647 : Int32)) % (25 : Int32))).toInt16.toInt32) (own_val (own_idx ((p1 &&& (2147483647 : Int32)) % (25 : Int32)))))), .unset] [(.int (own_flex (((own_f2 ((p1 &&& (2147483647 : Int32)) % (25 : Int32))) - (1 : Int32)).toInt16.toInt32) (own_val (own_idx ((p1 &&& (2147483647 : Int32)) % (25 : Int32))))))])) _
    by_cases hc69 : (own_flex (((own_f2 ((p1 &&& (2147483647 : Int32)) % (25 : Int32))) - (1 : Int32)).toInt16.toInt32) (own_val (own_idx ((p1 &&& (2147483647 : Int32)) % (25 : Int32))))) = (0 : Int32)
    · (try simp only [if_pos hc69] at kt)
      refine XS.ifNo X13.here hx rfl (hb hby at_69) rfl ((if0 _ _).trans (teq hc69).2) ?_
      show Steps p.tables e below (T13.setTop (mkF m 72 #[.val (.int p1), .val (.int p2), .val (.int ((p1 &&& (2147483647 : Int32)) % (25 : Int32))), .val (.ref (sf (own_idx ((p1 &&& (2147483647 : Int32)) % (25 : Int32))))), .val (.int (own_f2 ((p1 &&& (2147483647 : Int32)) % (25 : Int32)))), .val (.int (p2.toInt16.toInt32)), .val (.int v9_0), .val (.int (own_flex ((own_f2 ((p1 &&& (2147483647 : Int32)) % (25 : Int32))).toInt16.toInt32) (own_val (own_idx ((p1 &&& (2147483647 : Int32)) % (25 : Int32)))))), .unset] [])) _
      refine XS.iconst X13.here hx rfl (hb hby at_72) ?_
      show Steps p.tables e below (T13.setTop (mkF m 73 #[.val (.int p1), .val (.int p2), .val (.int ((p1 &&& (2147483647 : Int32)) % (25 : Int32))), .val (.ref (sf (own_idx ((p1 &&& (2147483647 : Int32)) % (25 : Int32))))), .val (.int (own_f2 ((p1 &&& (2147483647 : Int32)) % (25 : Int32)))), .val (.int (p2.toInt16.toInt32)), .val (.int v9_0), .val (.int (own_flex ((own_f2 ((p1 &&& (2147483647 : Int32)) % (25 : Int32))).toInt16.toInt32) (own_val (own_idx ((p1 &&& (2147483647 : Int32)) % (25 : Int32)))))), .unset] [(.int (1 : Int32))])) _
      refine XS.goto X13.here hx rfl (pc0 := 73) (pc' := 77) rfl (hb hby at_73) (by decide) (by decide) ?_
      exact kt
    · (try simp only [if_neg hc69] at kt)
      refine XS.ifYes X13.here hx rfl (pc0 := 69) (pc' := 76) rfl (hb hby at_69) rfl ((if0 _ _).trans (feq hc69).2) (by decide) (by decide) ?_
      show Steps p.tables e below (T13.setTop (mkF m 76 #[.val (.int p1), .val (.int p2), .val (.int ((p1 &&& (2147483647 : Int32)) % (25 : Int32))), .val (.ref (sf (own_idx ((p1 &&& (2147483647 : Int32)) % (25 : Int32))))), .val (.int (own_f2 ((p1 &&& (2147483647 : Int32)) % (25 : Int32)))), .val (.int (p2.toInt16.toInt32)), .val (.int v9_0), .val (.int (own_flex ((own_f2 ((p1 &&& (2147483647 : Int32)) % (25 : Int32))).toInt16.toInt32) (own_val (own_idx ((p1 &&& (2147483647 : Int32)) % (25 : Int32)))))), .unset] [])) _
      refine XS.iconst X13.here hx rfl (hb hby at_76) ?_
      exact kt
  have pre15 : ∀ t, Steps p.tables e below (T13.setTop (mkF m 81 #[.val (.int p1), .val (.int p2), .val (.int ((p1 &&& (2147483647 : Int32)) % (25 : Int32))), .val (.ref (sf (own_idx ((p1 &&& (2147483647 : Int32)) % (25 : Int32))))), .val (.int (own_f2 ((p1 &&& (2147483647 : Int32)) % (25 : Int32)))), .val (.int (p2.toInt16.toInt32)), .val (.int v9_0), .val (.int (own_flex ((own_f2 ((p1 &&& (2147483647 : Int32)) % (25 : Int32))).toInt16.toInt32) (own_val (own_idx ((p1 &&& (2147483647 : Int32)) % (25 : Int32)))))), .val (.int v14_0)] [(.int v9_0)])) t → Steps p.tables e below (s₁.setTop (entryFrame m #[(.int p1), (.int p2)] maxLocals)) t := by
    intro t kt
    refine pre14 t ?_
    show Steps p.tables e below (T13.setTop (mkF m 77 #[.val (.int p1), .val (.int p2), .val (.int ((p1 &&& (2147483647 : Int32)) % (25 : Int32))), .val (.ref (sf (own_idx ((p1 &&& (2147483647 : Int32)) % (25 : Int32))))), .val (.int (own_f2 ((p1 &&& (2147483647 : Int32)) % (25 : Int32)))), .val (.int (p2.toInt16.toInt32)), .val (.int v9_0), .val (.int (own_flex ((own_f2 ((p1 &&& (2147483647 : Int32)) % (25 : Int32))).toInt16.toInt32) (own_val (own_idx ((p1 &&& (2147483647 : Int32)) % (25 : Int32)))))), .unset] [(.int v14_0)])) _
    refine XS.istore X13.here hx rfl (hb hby at_77) rfl (l' := #[.val (.int p1), .val (.int p2), .val (.int ((p1 &&& (2147483647 : Int32)) % (25 : Int32))), .val (.ref (sf (own_idx ((p1 &&& (2147483647 : Int32)) % (25 : Int32))))), .val (.int (own_f2 ((p1 &&& (2147483647 : Int32)) % (25 : Int32)))), .val (.int (p2.toInt16.toInt32)), .val (.int v9_0), .val (.int (own_flex ((own_f2 ((p1 &&& (2147483647 : Int32)) % (25 : Int32))).toInt16.toInt32) (own_val (own_idx ((p1 &&& (2147483647 : Int32)) % (25 : Int32)))))), .val (.int v14_0)]) rfl ?_
    show Steps p.tables e below (T13.setTop (mkF m 79 #[.val (.int p1), .val (.int p2), .val (.int ((p1 &&& (2147483647 : Int32)) % (25 : Int32))), .val (.ref (sf (own_idx ((p1 &&& (2147483647 : Int32)) % (25 : Int32))))), .val (.int (own_f2 ((p1 &&& (2147483647 : Int32)) % (25 : Int32)))), .val (.int (p2.toInt16.toInt32)), .val (.int v9_0), .val (.int (own_flex ((own_f2 ((p1 &&& (2147483647 : Int32)) % (25 : Int32))).toInt16.toInt32) (own_val (own_idx ((p1 &&& (2147483647 : Int32)) % (25 : Int32)))))), .val (.int v14_0)] [])) _
    refine XS.iload X13.here hx rfl (hb hby at_79) rfl ?_
    exact kt
  obtain ⟨v16_0, hv16_0, pre16⟩ : ∃ (v16_0 : Int32), v16_0 = (if v9_0 = (0 : Int32) then (0 : Int32) else (if (own_flex ((own_f2 ((p1 &&& (2147483647 : Int32)) % (25 : Int32))).toInt16.toInt32) (own_val (own_idx ((p1 &&& (2147483647 : Int32)) % (25 : Int32))))) = (0 : Int32) then (0 : Int32) else (if v14_0 = (0 : Int32) then (0 : Int32) else (1 : Int32)))) ∧ ∀ t, Steps p.tables e below (T13.setTop (mkF m 99 #[.val (.int p1), .val (.int p2), .val (.int ((p1 &&& (2147483647 : Int32)) % (25 : Int32))), .val (.ref (sf (own_idx ((p1 &&& (2147483647 : Int32)) % (25 : Int32))))), .val (.int (own_f2 ((p1 &&& (2147483647 : Int32)) % (25 : Int32)))), .val (.int (p2.toInt16.toInt32)), .val (.int v9_0), .val (.int (own_flex ((own_f2 ((p1 &&& (2147483647 : Int32)) % (25 : Int32))).toInt16.toInt32) (own_val (own_idx ((p1 &&& (2147483647 : Int32)) % (25 : Int32)))))), .val (.int v14_0)] [(.int v16_0)])) t → Steps p.tables e below (s₁.setTop (entryFrame m #[(.int p1), (.int p2)] maxLocals)) t := by
    refine ⟨_, rfl, ?_⟩
    intro t kt
    refine pre15 t ?_
    show Steps p.tables e below (T13.setTop (mkF m 81 #[.val (.int p1), .val (.int p2), .val (.int ((p1 &&& (2147483647 : Int32)) % (25 : Int32))), .val (.ref (sf (own_idx ((p1 &&& (2147483647 : Int32)) % (25 : Int32))))), .val (.int (own_f2 ((p1 &&& (2147483647 : Int32)) % (25 : Int32)))), .val (.int (p2.toInt16.toInt32)), .val (.int v9_0), .val (.int (own_flex ((own_f2 ((p1 &&& (2147483647 : Int32)) % (25 : Int32))).toInt16.toInt32) (own_val (own_idx ((p1 &&& (2147483647 : Int32)) % (25 : Int32)))))), .val (.int v14_0)] [(.int v9_0)])) _
    by_cases hc81 : v9_0 = (0 : Int32)
    · (try simp only [if_pos hc81] at kt)
      refine XS.ifYes X13.here hx rfl (pc0 := 81) (pc' := 98) rfl (hb hby at_81) rfl ((if0 _ _).trans (teq hc81).1) (by decide) (by decide) ?_
      show Steps p.tables e below (T13.setTop (mkF m 98 #[.val (.int p1), .val (.int p2), .val (.int ((p1 &&& (2147483647 : Int32)) % (25 : Int32))), .val (.ref (sf (own_idx ((p1 &&& (2147483647 : Int32)) % (25 : Int32))))), .val (.int (own_f2 ((p1 &&& (2147483647 : Int32)) % (25 : Int32)))), .val (.int (p2.toInt16.toInt32)), .val (.int v9_0), .val (.int (own_flex ((own_f2 ((p1 &&& (2147483647 : Int32)) % (25 : Int32))).toInt16.toInt32) (own_val (own_idx ((p1 &&& (2147483647 : Int32)) % (25 : Int32)))))), .val (.int v14_0)] [])) _
      refine XS.iconst X13.here hx rfl (hb hby at_98) ?_
      exact kt
    · (try simp only [if_neg hc81] at kt)
      refine XS.ifNo X13.here hx rfl (hb hby at_81) rfl ((if0 _ _).trans (feq hc81).1) ?_
      show Steps p.tables e below (T13.setTop (mkF m 84 #[.val (.int p1), .val (.int p2), .val (.int ((p1 &&& (2147483647 : Int32)) % (25 : Int32))), .val (.ref (sf (own_idx ((p1 &&& (2147483647 : Int32)) % (25 : Int32))))), .val (.int (own_f2 ((p1 &&& (2147483647 : Int32)) % (25 : Int32)))), .val (.int (p2.toInt16.toInt32)), .val (.int v9_0), .val (.int (own_flex ((own_f2 ((p1 &&& (2147483647 : Int32)) % (25 : Int32))).toInt16.toInt32) (own_val (own_idx ((p1 &&& (2147483647 : Int32)) % (25 : Int32)))))), .val (.int v14_0)] [])) _
      refine XS.iload X13.here hx rfl (hb hby at_84) rfl ?_
      show Steps p.tables e below (T13.setTop (mkF m 86 #[.val (.int p1), .val (.int p2), .val (.int ((p1 &&& (2147483647 : Int32)) % (25 : Int32))), .val (.ref (sf (own_idx ((p1 &&& (2147483647 : Int32)) % (25 : Int32))))), .val (.int (own_f2 ((p1 &&& (2147483647 : Int32)) % (25 : Int32)))), .val (.int (p2.toInt16.toInt32)), .val (.int v9_0), .val (.int (own_flex ((own_f2 ((p1 &&& (2147483647 : Int32)) % (25 : Int32))).toInt16.toInt32) (own_val (own_idx ((p1 &&& (2147483647 : Int32)) % (25 : Int32)))))), .val (.int v14_0)] [(.int (own_flex ((own_f2 ((p1 &&& (2147483647 : Int32)) % (25 : Int32))).toInt16.toInt32) (own_val (own_idx ((p1 &&& (2147483647 : Int32)) % (25 : Int32))))))])) _
      by_cases hc86 : (own_flex ((own_f2 ((p1 &&& (2147483647 : Int32)) % (25 : Int32))).toInt16.toInt32) (own_val (own_idx ((p1 &&& (2147483647 : Int32)) % (25 : Int32))))) = (0 : Int32)
      · (try simp only [if_pos hc86] at kt)
        refine XS.ifYes X13.here hx rfl (pc0 := 86) (pc' := 98) rfl (hb hby at_86) rfl ((if0 _ _).trans (teq hc86).1) (by decide) (by decide) ?_
        show Steps p.tables e below (T13.setTop (mkF m 98 #[.val (.int p1), .val (.int p2), .val (.int ((p1 &&& (2147483647 : Int32)) % (25 : Int32))), .val (.ref (sf (own_idx ((p1 &&& (2147483647 : Int32)) % (25 : Int32))))), .val (.int (own_f2 ((p1 &&& (2147483647 : Int32)) % (25 : Int32)))), .val (.int (p2.toInt16.toInt32)), .val (.int v9_0), .val (.int (own_flex ((own_f2 ((p1 &&& (2147483647 : Int32)) % (25 : Int32))).toInt16.toInt32) (own_val (own_idx ((p1 &&& (2147483647 : Int32)) % (25 : Int32)))))), .val (.int v14_0)] [])) _
        refine XS.iconst X13.here hx rfl (hb hby at_98) ?_
        exact kt
      · (try simp only [if_neg hc86] at kt)
        refine XS.ifNo X13.here hx rfl (hb hby at_86) rfl ((if0 _ _).trans (feq hc86).1) ?_
        show Steps p.tables e below (T13.setTop (mkF m 89 #[.val (.int p1), .val (.int p2), .val (.int ((p1 &&& (2147483647 : Int32)) % (25 : Int32))), .val (.ref (sf (own_idx ((p1 &&& (2147483647 : Int32)) % (25 : Int32))))), .val (.int (own_f2 ((p1 &&& (2147483647 : Int32)) % (25 : Int32)))), .val (.int (p2.toInt16.toInt32)), .val (.int v9_0), .val (.int (own_flex ((own_f2 ((p1 &&& (2147483647 : Int32)) % (25 : Int32))).toInt16.toInt32) (own_val (own_idx ((p1 &&& (2147483647 : Int32)) % (25 : Int32)))))), .val (.int v14_0)] [])) _
        refine XS.iload X13.here hx rfl (hb hby at_89) rfl ?_
        show Steps p.tables e below (T13.setTop (mkF m 91 #[.val (.int p1), .val (.int p2), .val (.int ((p1 &&& (2147483647 : Int32)) % (25 : Int32))), .val (.ref (sf (own_idx ((p1 &&& (2147483647 : Int32)) % (25 : Int32))))), .val (.int (own_f2 ((p1 &&& (2147483647 : Int32)) % (25 : Int32)))), .val (.int (p2.toInt16.toInt32)), .val (.int v9_0), .val (.int (own_flex ((own_f2 ((p1 &&& (2147483647 : Int32)) % (25 : Int32))).toInt16.toInt32) (own_val (own_idx ((p1 &&& (2147483647 : Int32)) % (25 : Int32)))))), .val (.int v14_0)] [(.int v14_0)])) _
        by_cases hc91 : v14_0 = (0 : Int32)
        · (try simp only [if_pos hc91] at kt)
          refine XS.ifYes X13.here hx rfl (pc0 := 91) (pc' := 98) rfl (hb hby at_91) rfl ((if0 _ _).trans (teq hc91).1) (by decide) (by decide) ?_
          show Steps p.tables e below (T13.setTop (mkF m 98 #[.val (.int p1), .val (.int p2), .val (.int ((p1 &&& (2147483647 : Int32)) % (25 : Int32))), .val (.ref (sf (own_idx ((p1 &&& (2147483647 : Int32)) % (25 : Int32))))), .val (.int (own_f2 ((p1 &&& (2147483647 : Int32)) % (25 : Int32)))), .val (.int (p2.toInt16.toInt32)), .val (.int v9_0), .val (.int (own_flex ((own_f2 ((p1 &&& (2147483647 : Int32)) % (25 : Int32))).toInt16.toInt32) (own_val (own_idx ((p1 &&& (2147483647 : Int32)) % (25 : Int32)))))), .val (.int v14_0)] [])) _
          refine XS.iconst X13.here hx rfl (hb hby at_98) ?_
          exact kt
        · (try simp only [if_neg hc91] at kt)
          refine XS.ifNo X13.here hx rfl (hb hby at_91) rfl ((if0 _ _).trans (feq hc91).1) ?_
          show Steps p.tables e below (T13.setTop (mkF m 94 #[.val (.int p1), .val (.int p2), .val (.int ((p1 &&& (2147483647 : Int32)) % (25 : Int32))), .val (.ref (sf (own_idx ((p1 &&& (2147483647 : Int32)) % (25 : Int32))))), .val (.int (own_f2 ((p1 &&& (2147483647 : Int32)) % (25 : Int32)))), .val (.int (p2.toInt16.toInt32)), .val (.int v9_0), .val (.int (own_flex ((own_f2 ((p1 &&& (2147483647 : Int32)) % (25 : Int32))).toInt16.toInt32) (own_val (own_idx ((p1 &&& (2147483647 : Int32)) % (25 : Int32)))))), .val (.int v14_0)] [])) _
          refine XS.iconst X13.here hx rfl (hb hby at_94) ?_
          show Steps p.tables e below (T13.setTop (mkF m 95 #[.val (.int p1), .val (.int p2), .val (.int ((p1 &&& (2147483647 : Int32)) % (25 : Int32))), .val (.ref (sf (own_idx ((p1 &&& (2147483647 : Int32)) % (25 : Int32))))), .val (.int (own_f2 ((p1 &&& (2147483647 : Int32)) % (25 : Int32)))), .val (.int (p2.toInt16.toInt32)), .val (.int v9_0), .val (.int (own_flex ((own_f2 ((p1 &&& (2147483647 : Int32)) % (25 : Int32))).toInt16.toInt32) (own_val (own_idx ((p1 &&& (2147483647 : Int32)) % (25 : Int32)))))), .val (.int v14_0)] [(.int (1 : Int32))])) _
          refine XS.goto X13.here hx rfl (pc0 := 95) (pc' := 99) rfl (hb hby at_95) (by decide) (by decide) ?_
          exact kt
  have hfin : v16_0 = 1 := by
    have q := own_vals_ok (own_idx ((p1 &&& (2147483647 : Int32)) % (25 : Int32))) (own_idx_lt _)
    simp only [own_first] at q
    simp only [hv16_0, hv14_0, hv9_0, hv8_0, own_first, own_flex, q.1, q.2]
    by_cases hz : p2.toInt16.toInt32 < own_f2 ((p1 &&& (2147483647 : Int32)) % (25 : Int32))
    · simp [hz]
    · simp [hz]
  obtain ⟨fs, hr, hrun, hended, hW, hsame⟩ := X13.leave (v := some (.int (1 : Int32))) (fun h => by rw [Bd.returns] at h; cases h)
  refine ⟨_, _, pre16 _ ?_, hrun, hended, _, _, rfl, ?_, ⟨_, rfl⟩, hW, hsame.mono (by decide) (by decide)⟩
  · show Steps p.tables e below (T13.setTop (mkF m 99 #[.val (.int p1), .val (.int p2), .val (.int ((p1 &&& (2147483647 : Int32)) % (25 : Int32))), .val (.ref (sf (own_idx ((p1 &&& (2147483647 : Int32)) % (25 : Int32))))), .val (.int (own_f2 ((p1 &&& (2147483647 : Int32)) % (25 : Int32)))), .val (.int (p2.toInt16.toInt32)), .val (.int v9_0), .val (.int (own_flex ((own_f2 ((p1 &&& (2147483647 : Int32)) % (25 : Int32))).toInt16.toInt32) (own_val (own_idx ((p1 &&& (2147483647 : Int32)) % (25 : Int32)))))), .val (.int v14_0)] [(.int v16_0)])) _
    rw [hfin]
    exact retN X13 hx (t := .boolean) Bd.returns (by simp) (hb hby at_99) hr
  · show Q0 n0 _ T13.heap _
    rw [e13]
    exact ⟨rfl, N13⟩
set_option maxRecDepth 65536 in
set_option maxHeartbeats 40000000 in
theorem comes_1 {Post : Tables → Env → Array Value → State → Outcome → State → Prop} (hpost : ∀ tb e args s v u, (limb_1_1.after args s (.returned v) u = true ∧ limb_1_2.after args s (.returned v) u = true ∧ True) → FrameEnd s (.returned v) u (Jvm.fieldLocs frame_1_writes args s ++ Jvm.arrayLocs frame_1_arrays args s ++ Jvm.staticLocs frame_1_statics s) 0 0 → Post tb e args s (.returned v) u) :
    ArmFor flags0 classFile x code maxLocals ret World_1 tables_1 room_1 Calls_1 rest_1 Pre_1 Post := by
  intro l hfl _ _ p e ha hc hk s m args below hf hA hF happ hP
  obtain ⟨hcalls, hrest, hpre⟩ := hP
  obtain ⟨-, -, -, hnamed, -, -, -, hat⟩ := (Spec.applies_iff hf).mp happ
  obtain ⟨hg, hn⟩ := and_e (Cond.before_iff.mp (show (Jvm.Cond.and given_1 narrow_1).before args s = true from hpre))
  obtain ⟨g1, g2⟩ := and_e hg
  obtain ⟨g3, g4⟩ := and_e g2
  obtain ⟨w0, w1, rfl⟩ : ∃ w0 w1 : Value, args = #[w0, w1] := by
    have hs : args.size = 2 := by simpa [Cond.value, given_1] using g1
    obtain ⟨L⟩ := args
    match L, hs with
    | [w0, w1], _ => exact ⟨w0, w1, rfl⟩
  have hw := fun d (hd : d ∈ tables_1) => atoms_spec (ws := Jvm.Cond.code x code maxLocals ret :: tables_1) hat d (List.mem_cons_of_mem _ hd)
  have hfit : Fit s := fun {y c} hc i hi => by
    obtain ⟨ha, rfl⟩ := Array.getElem?_eq_some_iff.mp hc
    have q := List.all_eq_true.mp ((Array.all_eq_true_iff_forall_mem.mp hF) _ (Array.getElem_mem ha)) i (List.mem_range.mpr hi)
    simpa [Array.getElem?_eq_getElem hi] using q
  obtain ⟨i0, ei0⟩ := is_v g3
  obtain rfl : w0 = (.int i0) := Option.some.inj ei0
  obtain ⟨i1, ei1⟩ := is_v g4
  obtain rfl : w1 = (.int i1) := Option.some.inj ei1
  obtain ⟨n1, n2⟩ := and_e hn
  obtain ⟨s_PRODUCE, ev_PRODUCE⟩ := exa_v n1
  have EX_PRODUCE := Exa.start ev_PRODUCE n1
  have ST_PRODUCE := Sta.start ev_PRODUCE (Or.inr ⟨(hw _ (List.mem_of_getElem? (i := 6) rfl)), (hw _ (List.mem_of_getElem? (i := 7) rfl))⟩)
  obtain ⟨n3, n4⟩ := and_e n2
  have FL_PRODUCE := Fld.start ((fld_at ev_PRODUCE).symm.trans (own_eqInt n3))
  obtain ⟨n5, n6⟩ := and_e n4
  obtain ⟨s_CREATE_TOPICS, ev_CREATE_TOPICS⟩ := exa_v n5
  have EX_CREATE_TOPICS := Exa.start ev_CREATE_TOPICS n5
  have ST_CREATE_TOPICS := Sta.start ev_CREATE_TOPICS (Or.inr ⟨(hw _ (List.mem_of_getElem? (i := 6) rfl)), (hw _ (List.mem_of_getElem? (i := 19) rfl))⟩)
  obtain ⟨n7, n8⟩ := and_e n6
  have FL_CREATE_TOPICS := Fld.start ((fld_at ev_CREATE_TOPICS).symm.trans (own_eqInt n7))
  obtain ⟨n9, n10⟩ := and_e n8
  obtain ⟨s_HEARTBEAT, ev_HEARTBEAT⟩ := exa_v n9
  have EX_HEARTBEAT := Exa.start ev_HEARTBEAT n9
  have ST_HEARTBEAT := Sta.start ev_HEARTBEAT (Or.inr ⟨(hw _ (List.mem_of_getElem? (i := 6) rfl)), (hw _ (List.mem_of_getElem? (i := 21) rfl))⟩)
  obtain ⟨n11, n12⟩ := and_e n10
  have FL_HEARTBEAT := Fld.start ((fld_at ev_HEARTBEAT).symm.trans (own_eqInt n11))
  obtain ⟨n13, n14⟩ := and_e n12
  obtain ⟨s_FIND_COORDINATOR, ev_FIND_COORDINATOR⟩ := exa_v n13
  have EX_FIND_COORDINATOR := Exa.start ev_FIND_COORDINATOR n13
  have ST_FIND_COORDINATOR := Sta.start ev_FIND_COORDINATOR (Or.inr ⟨(hw _ (List.mem_of_getElem? (i := 6) rfl)), (hw _ (List.mem_of_getElem? (i := 23) rfl))⟩)
  obtain ⟨n15, n16⟩ := and_e n14
  have FL_FIND_COORDINATOR := Fld.start ((fld_at ev_FIND_COORDINATOR).symm.trans (own_eqInt n15))
  obtain ⟨n17, n18⟩ := and_e n16
  obtain ⟨s_OFFSET_COMMIT, ev_OFFSET_COMMIT⟩ := exa_v n17
  have EX_OFFSET_COMMIT := Exa.start ev_OFFSET_COMMIT n17
  have ST_OFFSET_COMMIT := Sta.start ev_OFFSET_COMMIT (Or.inr ⟨(hw _ (List.mem_of_getElem? (i := 6) rfl)), (hw _ (List.mem_of_getElem? (i := 25) rfl))⟩)
  obtain ⟨n19, n20⟩ := and_e n18
  have FL_OFFSET_COMMIT := Fld.start ((fld_at ev_OFFSET_COMMIT).symm.trans (own_eqInt n19))
  obtain ⟨n21, n22⟩ := and_e n20
  obtain ⟨s_LIST_GROUPS, ev_LIST_GROUPS⟩ := exa_v n21
  have EX_LIST_GROUPS := Exa.start ev_LIST_GROUPS n21
  have ST_LIST_GROUPS := Sta.start ev_LIST_GROUPS (Or.inr ⟨(hw _ (List.mem_of_getElem? (i := 6) rfl)), (hw _ (List.mem_of_getElem? (i := 27) rfl))⟩)
  obtain ⟨n23, n24⟩ := and_e n22
  have FL_LIST_GROUPS := Fld.start ((fld_at ev_LIST_GROUPS).symm.trans (own_eqInt n23))
  obtain ⟨n25, n26⟩ := and_e n24
  obtain ⟨s_CREATE_PARTITIONS, ev_CREATE_PARTITIONS⟩ := exa_v n25
  have EX_CREATE_PARTITIONS := Exa.start ev_CREATE_PARTITIONS n25
  have ST_CREATE_PARTITIONS := Sta.start ev_CREATE_PARTITIONS (Or.inr ⟨(hw _ (List.mem_of_getElem? (i := 6) rfl)), (hw _ (List.mem_of_getElem? (i := 29) rfl))⟩)
  obtain ⟨n27, n28⟩ := and_e n26
  have FL_CREATE_PARTITIONS := Fld.start ((fld_at ev_CREATE_PARTITIONS).symm.trans (own_eqInt n27))
  obtain ⟨n29, n30⟩ := and_e n28
  obtain ⟨s_METADATA, ev_METADATA⟩ := exa_v n29
  have EX_METADATA := Exa.start ev_METADATA n29
  have ST_METADATA := Sta.start ev_METADATA (Or.inr ⟨(hw _ (List.mem_of_getElem? (i := 6) rfl)), (hw _ (List.mem_of_getElem? (i := 31) rfl))⟩)
  obtain ⟨n31, n32⟩ := and_e n30
  have FL_METADATA := Fld.start ((fld_at ev_METADATA).symm.trans (own_eqInt n31))
  obtain ⟨n33, n34⟩ := and_e n32
  obtain ⟨s_LEAVE_GROUP, ev_LEAVE_GROUP⟩ := exa_v n33
  have EX_LEAVE_GROUP := Exa.start ev_LEAVE_GROUP n33
  have ST_LEAVE_GROUP := Sta.start ev_LEAVE_GROUP (Or.inr ⟨(hw _ (List.mem_of_getElem? (i := 6) rfl)), (hw _ (List.mem_of_getElem? (i := 33) rfl))⟩)
  obtain ⟨n35, n36⟩ := and_e n34
  have FL_LEAVE_GROUP := Fld.start ((fld_at ev_LEAVE_GROUP).symm.trans (own_eqInt n35))
  obtain ⟨n37, n38⟩ := and_e n36
  obtain ⟨s_INCREMENTAL_ALTER_CONFIGS, ev_INCREMENTAL_ALTER_CONFIGS⟩ := exa_v n37
  have EX_INCREMENTAL_ALTER_CONFIGS := Exa.start ev_INCREMENTAL_ALTER_CONFIGS n37
  have ST_INCREMENTAL_ALTER_CONFIGS := Sta.start ev_INCREMENTAL_ALTER_CONFIGS (Or.inr ⟨(hw _ (List.mem_of_getElem? (i := 6) rfl)), (hw _ (List.mem_of_getElem? (i := 35) rfl))⟩)
  obtain ⟨n39, n40⟩ := and_e n38
  have FL_INCREMENTAL_ALTER_CONFIGS := Fld.start ((fld_at ev_INCREMENTAL_ALTER_CONFIGS).symm.trans (own_eqInt n39))
  obtain ⟨n41, n42⟩ := and_e n40
  obtain ⟨s_DELETE_TOPICS, ev_DELETE_TOPICS⟩ := exa_v n41
  have EX_DELETE_TOPICS := Exa.start ev_DELETE_TOPICS n41
  have ST_DELETE_TOPICS := Sta.start ev_DELETE_TOPICS (Or.inr ⟨(hw _ (List.mem_of_getElem? (i := 6) rfl)), (hw _ (List.mem_of_getElem? (i := 37) rfl))⟩)
  obtain ⟨n43, n44⟩ := and_e n42
  have FL_DELETE_TOPICS := Fld.start ((fld_at ev_DELETE_TOPICS).symm.trans (own_eqInt n43))
  obtain ⟨n45, n46⟩ := and_e n44
  obtain ⟨s_OFFSET_DELETE, ev_OFFSET_DELETE⟩ := exa_v n45
  have EX_OFFSET_DELETE := Exa.start ev_OFFSET_DELETE n45
  have ST_OFFSET_DELETE := Sta.start ev_OFFSET_DELETE (Or.inr ⟨(hw _ (List.mem_of_getElem? (i := 6) rfl)), (hw _ (List.mem_of_getElem? (i := 39) rfl))⟩)
  obtain ⟨n47, n48⟩ := and_e n46
  have FL_OFFSET_DELETE := Fld.start ((fld_at ev_OFFSET_DELETE).symm.trans (own_eqInt n47))
  obtain ⟨n49, n50⟩ := and_e n48
  obtain ⟨s_FETCH, ev_FETCH⟩ := exa_v n49
  have EX_FETCH := Exa.start ev_FETCH n49
  have ST_FETCH := Sta.start ev_FETCH (Or.inr ⟨(hw _ (List.mem_of_getElem? (i := 6) rfl)), (hw _ (List.mem_of_getElem? (i := 41) rfl))⟩)
  obtain ⟨n51, n52⟩ := and_e n50
  have FL_FETCH := Fld.start ((fld_at ev_FETCH).symm.trans (own_eqInt n51))
  obtain ⟨n53, n54⟩ := and_e n52
  obtain ⟨s_LIST_OFFSETS, ev_LIST_OFFSETS⟩ := exa_v n53
  have EX_LIST_OFFSETS := Exa.start ev_LIST_OFFSETS n53
  have ST_LIST_OFFSETS := Sta.start ev_LIST_OFFSETS (Or.inr ⟨(hw _ (List.mem_of_getElem? (i := 6) rfl)), (hw _ (List.mem_of_getElem? (i := 43) rfl))⟩)
  obtain ⟨n55, n56⟩ := and_e n54
  have FL_LIST_OFFSETS := Fld.start ((fld_at ev_LIST_OFFSETS).symm.trans (own_eqInt n55))
  obtain ⟨n57, n58⟩ := and_e n56
  obtain ⟨s_DELETE_GROUPS, ev_DELETE_GROUPS⟩ := exa_v n57
  have EX_DELETE_GROUPS := Exa.start ev_DELETE_GROUPS n57
  have ST_DELETE_GROUPS := Sta.start ev_DELETE_GROUPS (Or.inr ⟨(hw _ (List.mem_of_getElem? (i := 6) rfl)), (hw _ (List.mem_of_getElem? (i := 45) rfl))⟩)
  obtain ⟨n59, n60⟩ := and_e n58
  have FL_DELETE_GROUPS := Fld.start ((fld_at ev_DELETE_GROUPS).symm.trans (own_eqInt n59))
  obtain ⟨n61, n62⟩ := and_e n60
  obtain ⟨s_DESCRIBE_CONFIGS, ev_DESCRIBE_CONFIGS⟩ := exa_v n61
  have EX_DESCRIBE_CONFIGS := Exa.start ev_DESCRIBE_CONFIGS n61
  have ST_DESCRIBE_CONFIGS := Sta.start ev_DESCRIBE_CONFIGS (Or.inr ⟨(hw _ (List.mem_of_getElem? (i := 6) rfl)), (hw _ (List.mem_of_getElem? (i := 47) rfl))⟩)
  obtain ⟨n63, n64⟩ := and_e n62
  have FL_DESCRIBE_CONFIGS := Fld.start ((fld_at ev_DESCRIBE_CONFIGS).symm.trans (own_eqInt n63))
  obtain ⟨n65, n66⟩ := and_e n64
  obtain ⟨s_CHANGE_TOPIC, ev_CHANGE_TOPIC⟩ := exa_v n65
  have EX_CHANGE_TOPIC := Exa.start ev_CHANGE_TOPIC n65
  have ST_CHANGE_TOPIC := Sta.start ev_CHANGE_TOPIC (Or.inr ⟨(hw _ (List.mem_of_getElem? (i := 6) rfl)), (hw _ (List.mem_of_getElem? (i := 49) rfl))⟩)
  obtain ⟨n67, n68⟩ := and_e n66
  have FL_CHANGE_TOPIC := Fld.start ((fld_at ev_CHANGE_TOPIC).symm.trans (own_eqInt n67))
  obtain ⟨n69, n70⟩ := and_e n68
  obtain ⟨s_SYNC_GROUP, ev_SYNC_GROUP⟩ := exa_v n69
  have EX_SYNC_GROUP := Exa.start ev_SYNC_GROUP n69
  have ST_SYNC_GROUP := Sta.start ev_SYNC_GROUP (Or.inr ⟨(hw _ (List.mem_of_getElem? (i := 6) rfl)), (hw _ (List.mem_of_getElem? (i := 51) rfl))⟩)
  obtain ⟨n71, n72⟩ := and_e n70
  have FL_SYNC_GROUP := Fld.start ((fld_at ev_SYNC_GROUP).symm.trans (own_eqInt n71))
  obtain ⟨n73, n74⟩ := and_e n72
  obtain ⟨s_DESCRIBE_GROUPS, ev_DESCRIBE_GROUPS⟩ := exa_v n73
  have EX_DESCRIBE_GROUPS := Exa.start ev_DESCRIBE_GROUPS n73
  have ST_DESCRIBE_GROUPS := Sta.start ev_DESCRIBE_GROUPS (Or.inr ⟨(hw _ (List.mem_of_getElem? (i := 6) rfl)), (hw _ (List.mem_of_getElem? (i := 53) rfl))⟩)
  obtain ⟨n75, n76⟩ := and_e n74
  have FL_DESCRIBE_GROUPS := Fld.start ((fld_at ev_DESCRIBE_GROUPS).symm.trans (own_eqInt n75))
  obtain ⟨n77, n78⟩ := and_e n76
  obtain ⟨s_OFFSET_FETCH, ev_OFFSET_FETCH⟩ := exa_v n77
  have EX_OFFSET_FETCH := Exa.start ev_OFFSET_FETCH n77
  have ST_OFFSET_FETCH := Sta.start ev_OFFSET_FETCH (Or.inr ⟨(hw _ (List.mem_of_getElem? (i := 6) rfl)), (hw _ (List.mem_of_getElem? (i := 55) rfl))⟩)
  obtain ⟨n79, n80⟩ := and_e n78
  have FL_OFFSET_FETCH := Fld.start ((fld_at ev_OFFSET_FETCH).symm.trans (own_eqInt n79))
  obtain ⟨n81, n82⟩ := and_e n80
  obtain ⟨s_INIT_PRODUCER_ID, ev_INIT_PRODUCER_ID⟩ := exa_v n81
  have EX_INIT_PRODUCER_ID := Exa.start ev_INIT_PRODUCER_ID n81
  have ST_INIT_PRODUCER_ID := Sta.start ev_INIT_PRODUCER_ID (Or.inr ⟨(hw _ (List.mem_of_getElem? (i := 6) rfl)), (hw _ (List.mem_of_getElem? (i := 57) rfl))⟩)
  obtain ⟨n83, n84⟩ := and_e n82
  have FL_INIT_PRODUCER_ID := Fld.start ((fld_at ev_INIT_PRODUCER_ID).symm.trans (own_eqInt n83))
  obtain ⟨n85, n86⟩ := and_e n84
  obtain ⟨s_JOIN_GROUP, ev_JOIN_GROUP⟩ := exa_v n85
  have EX_JOIN_GROUP := Exa.start ev_JOIN_GROUP n85
  have ST_JOIN_GROUP := Sta.start ev_JOIN_GROUP (Or.inr ⟨(hw _ (List.mem_of_getElem? (i := 6) rfl)), (hw _ (List.mem_of_getElem? (i := 59) rfl))⟩)
  obtain ⟨n87, n88⟩ := and_e n86
  have FL_JOIN_GROUP := Fld.start ((fld_at ev_JOIN_GROUP).symm.trans (own_eqInt n87))
  obtain ⟨n89, n90⟩ := and_e n88
  obtain ⟨s_ALTER_CONFIGS, ev_ALTER_CONFIGS⟩ := exa_v n89
  have EX_ALTER_CONFIGS := Exa.start ev_ALTER_CONFIGS n89
  have ST_ALTER_CONFIGS := Sta.start ev_ALTER_CONFIGS (Or.inr ⟨(hw _ (List.mem_of_getElem? (i := 6) rfl)), (hw _ (List.mem_of_getElem? (i := 61) rfl))⟩)
  obtain ⟨n91, n92⟩ := and_e n90
  have FL_ALTER_CONFIGS := Fld.start ((fld_at ev_ALTER_CONFIGS).symm.trans (own_eqInt n91))
  obtain ⟨n93, n94⟩ := and_e n92
  obtain ⟨s_API_VERSIONS, ev_API_VERSIONS⟩ := exa_v n93
  have EX_API_VERSIONS := Exa.start ev_API_VERSIONS n93
  have ST_API_VERSIONS := Sta.start ev_API_VERSIONS (Or.inr ⟨(hw _ (List.mem_of_getElem? (i := 6) rfl)), (hw _ (List.mem_of_getElem? (i := 63) rfl))⟩)
  obtain ⟨n95, n96⟩ := and_e n94
  have FL_API_VERSIONS := Fld.start ((fld_at ev_API_VERSIONS).symm.trans (own_eqInt n95))
  obtain ⟨n97, n98⟩ := and_e n96
  obtain ⟨s_CLUSTER_SYNC, ev_CLUSTER_SYNC⟩ := exa_v n97
  have EX_CLUSTER_SYNC := Exa.start ev_CLUSTER_SYNC n97
  have ST_CLUSTER_SYNC := Sta.start ev_CLUSTER_SYNC (Or.inr ⟨(hw _ (List.mem_of_getElem? (i := 6) rfl)), (hw _ (List.mem_of_getElem? (i := 65) rfl))⟩)
  have FL_CLUSTER_SYNC := Fld.start ((fld_at ev_CLUSTER_SYNC).symm.trans (own_eqInt n98))
  have hE : ∀ i, i < 25 → Exa s s.heap (([s_PRODUCE, s_FETCH, s_LIST_OFFSETS, s_METADATA, s_OFFSET_COMMIT, s_OFFSET_FETCH, s_FIND_COORDINATOR, s_JOIN_GROUP, s_HEARTBEAT, s_LEAVE_GROUP, s_SYNC_GROUP, s_DESCRIBE_GROUPS, s_LIST_GROUPS, s_API_VERSIONS, s_CREATE_TOPICS, s_DELETE_TOPICS, s_INIT_PRODUCER_ID, s_DESCRIBE_CONFIGS, s_ALTER_CONFIGS, s_CREATE_PARTITIONS, s_DELETE_GROUPS, s_INCREMENTAL_ALTER_CONFIGS, s_OFFSET_DELETE, s_CLUSTER_SYNC, s_CHANGE_TOPIC] : List Addr).getD i 0) "com/example/stierlin/stierlin/wire/ApiKey" := fun i hi => match i, hi with
    | 0, _ => EX_PRODUCE
    | 1, _ => EX_FETCH
    | 2, _ => EX_LIST_OFFSETS
    | 3, _ => EX_METADATA
    | 4, _ => EX_OFFSET_COMMIT
    | 5, _ => EX_OFFSET_FETCH
    | 6, _ => EX_FIND_COORDINATOR
    | 7, _ => EX_JOIN_GROUP
    | 8, _ => EX_HEARTBEAT
    | 9, _ => EX_LEAVE_GROUP
    | 10, _ => EX_SYNC_GROUP
    | 11, _ => EX_DESCRIBE_GROUPS
    | 12, _ => EX_LIST_GROUPS
    | 13, _ => EX_API_VERSIONS
    | 14, _ => EX_CREATE_TOPICS
    | 15, _ => EX_DELETE_TOPICS
    | 16, _ => EX_INIT_PRODUCER_ID
    | 17, _ => EX_DESCRIBE_CONFIGS
    | 18, _ => EX_ALTER_CONFIGS
    | 19, _ => EX_CREATE_PARTITIONS
    | 20, _ => EX_DELETE_GROUPS
    | 21, _ => EX_INCREMENTAL_ALTER_CONFIGS
    | 22, _ => EX_OFFSET_DELETE
    | 23, _ => EX_CLUSTER_SYNC
    | 24, _ => EX_CHANGE_TOPIC
    | j + 25, h => absurd h (by omega)
  have hF : ∀ i, i < 25 → Fld s s.heap (([s_PRODUCE, s_FETCH, s_LIST_OFFSETS, s_METADATA, s_OFFSET_COMMIT, s_OFFSET_FETCH, s_FIND_COORDINATOR, s_JOIN_GROUP, s_HEARTBEAT, s_LEAVE_GROUP, s_SYNC_GROUP, s_DESCRIBE_GROUPS, s_LIST_GROUPS, s_API_VERSIONS, s_CREATE_TOPICS, s_DELETE_TOPICS, s_INIT_PRODUCER_ID, s_DESCRIBE_CONFIGS, s_ALTER_CONFIGS, s_CREATE_PARTITIONS, s_DELETE_GROUPS, s_INCREMENTAL_ALTER_CONFIGS, s_OFFSET_DELETE, s_CLUSTER_SYNC, s_CHANGE_TOPIC] : List Addr).getD i 0) "com/example/stierlin/stierlin/wire/ApiKey" "firstFlexibleVersion" "S" (.int (own_val i)) := fun i hi => match i, hi with
    | 0, _ => FL_PRODUCE
    | 1, _ => FL_FETCH
    | 2, _ => FL_LIST_OFFSETS
    | 3, _ => FL_METADATA
    | 4, _ => FL_OFFSET_COMMIT
    | 5, _ => FL_OFFSET_FETCH
    | 6, _ => FL_FIND_COORDINATOR
    | 7, _ => FL_JOIN_GROUP
    | 8, _ => FL_HEARTBEAT
    | 9, _ => FL_LEAVE_GROUP
    | 10, _ => FL_SYNC_GROUP
    | 11, _ => FL_DESCRIBE_GROUPS
    | 12, _ => FL_LIST_GROUPS
    | 13, _ => FL_API_VERSIONS
    | 14, _ => FL_CREATE_TOPICS
    | 15, _ => FL_DELETE_TOPICS
    | 16, _ => FL_INIT_PRODUCER_ID
    | 17, _ => FL_DESCRIBE_CONFIGS
    | 18, _ => FL_ALTER_CONFIGS
    | 19, _ => FL_CREATE_PARTITIONS
    | 20, _ => FL_DELETE_GROUPS
    | 21, _ => FL_INCREMENTAL_ALTER_CONFIGS
    | 22, _ => FL_OFFSET_DELETE
    | 23, _ => FL_CLUSTER_SYNC
    | 24, _ => FL_CHANGE_TOPIC
    | j + 25, h => absurd h (by omega)
  obtain ⟨n, o, h1, h2, h3, _, L, rfl, ⟨rfl, N⟩, hq⟩ := rm0 l s _ hw tables_1 i0 i1 (fun i => ([s_PRODUCE, s_FETCH, s_LIST_OFFSETS, s_METADATA, s_OFFSET_COMMIT, s_OFFSET_FETCH, s_FIND_COORDINATOR, s_JOIN_GROUP, s_HEARTBEAT, s_LEAVE_GROUP, s_SYNC_GROUP, s_DESCRIBE_GROUPS, s_LIST_GROUPS, s_API_VERSIONS, s_CREATE_TOPICS, s_DELETE_TOPICS, s_INIT_PRODUCER_ID, s_DESCRIBE_CONFIGS, s_ALTER_CONFIGS, s_CREATE_PARTITIONS, s_DELETE_GROUPS, s_INCREMENTAL_ALTER_CONFIGS, s_OFFSET_DELETE, s_CLUSTER_SYNC, s_CHANGE_TOPIC] : List Addr).getD i 0) s.heap s.heap.size (Nat.le_refl _) ST_PRODUCE ST_FETCH ST_LIST_OFFSETS ST_METADATA ST_OFFSET_COMMIT ST_OFFSET_FETCH ST_FIND_COORDINATOR ST_JOIN_GROUP ST_HEARTBEAT ST_LEAVE_GROUP ST_SYNC_GROUP ST_DESCRIBE_GROUPS ST_LIST_GROUPS ST_API_VERSIONS ST_CREATE_TOPICS ST_DELETE_TOPICS ST_INIT_PRODUCER_ID ST_DESCRIBE_CONFIGS ST_ALTER_CONFIGS ST_CREATE_PARTITIONS ST_DELETE_GROUPS ST_INCREMENTAL_ALTER_CONFIGS ST_OFFSET_DELETE ST_CLUSTER_SYNC ST_CHANGE_TOPIC hE hF p e ha hc hk s m _ below hf ((Spec.applies_iff_loose hf).mp happ).1 ⟨rfl, State.Warmed39.refl s, rfl⟩ trivial
  refine ⟨n, _, h1, h2, h3, hpost _ _ _ _ _ _ ⟨Cond.after_iff.mpr rfl, Cond.after_iff.mpr (eq_i res_at (Term.int_eval (1)) rfl), trivial⟩ ⟨hq.1, hq.2.1, (hq.2.2.sift fun y hy => Or.inr (N y hy)).mono (by decide) (by decide)⟩⟩
theorem main_1_1 : Claimed_1_1 := comes_1 fun _ _ _ _ _ _ h hF => ⟨h.1, hF⟩
theorem main_1_2 : Claimed_1_2 := comes_1 fun _ _ _ _ _ _ h hF => ⟨h.2.1, hF⟩
end Jvm.Pilot.@@N@@
namespace Jvm.Pilot.@@N@@
open Jvm Jvm.ClassFile Sem Op Lib Jvm.Free Jvm.Stand Jvm.Pilot.@@N@@.Jvm.D
/-! MADE BY PROGRAM (witnessworld.py) out of the Statement's table words and the real class files: 12 classes; the members and pool entries that the words name. The judged class is class 1, her method 1. -/
namespace start1
open Jvm.ClassFile
def u (s : String) : CpInfo := .utf8 (stringToUtf16 s)
/-- a pool by its gaps: so many unusable entries, then the entry; so many at the end -/
def gap : Nat → List CpInfo → List CpInfo
  | 0, r => r
  | n + 1, r => .unusable :: gap n r
def poolList (es : List (Nat × CpInfo)) (last : Nat) : List CpInfo := es.foldr (fun e r => gap e.1 (e.2 :: r)) (gap last [])
def pool (es : List (Nat × CpInfo)) (last : Nat) : Array CpInfo := ⟨poolList es last⟩
def fileOf (pool : Array CpInfo) (this : Nat) (attrs : Array Attribute := #[]) (ms : Array MethodInfo := #[]) (fl : Nat := 33) (sup : Nat := 0) (ifs : Array Nat := #[]) (fds : Array FieldInfo := #[]) : ClassFile where
  minorVersion := 0
  majorVersion := 65
  constantPool := pool
  accessFlags := fl
  thisClass := this
  superClass := sup
  interfaces := ifs
  fields := fds
  methods := ms
  attributes := attrs
def plain (name : String) (sup : Option ClassId) : Class where
  name := name
  kind := .ordinary
  loader := none
  accessFlags := 33
  super := sup
  interfaces := #[]
  cf := none
  fields := #[]
  methods := #[]
  instanceTypes := #[]
  staticTypes := #[]
  resolved := #[]
  callSites := []
  init := .initialized
  statics := none
  mirror := none

def pool0 : Array CpInfo := pool [(5, u "<init>"), (0, u "()V"), (1, .class_ 10), (1, u "java/lang/Object")] 113

def k0m0 : Method := { name := "<init>", desc := "()V", sig := { parameters := [], returnType := none }, accessFlags := 1, code := none }
/-- java/lang/Object -/
def k0 : Class := { plain "java/lang/Object" none with
  accessFlags := 33
  interfaces := #[]
  cf := some (fileOf pool0 8 #[] #[{ accessFlags := 1, nameIndex := 5, descriptorIndex := 6, attributes := #[] }] 33 0 #[] #[])
  fields := #[]
  methods := #[k0m0]
  instanceTypes := #[]
  staticTypes := #[]
  resolved := Array.replicate 124 none
  statics := none }

def pool1 : Array CpInfo := pool [(2, .class_ 4), (1, u "java/lang/Object"), (0, u "<init>"), (0, u "()V"), (0, .integer 2147483647), (0, .methodref 9 10), (0, .class_ 11), (0, .nameAndType 12 13), (0, u "com/example/stierlin/stierlin/wire/ApiKeyIsFlexiblePinLaw"), (0, u "pick"), (0, u "(I)Lcom/example/stierlin/stierlin/wire/ApiKey;"), (0, .methodref 9 15), (0, .nameAndType 16 17), (0, u "first"), (0, u "(I)I"), (0, .methodref 19 20), (0, .class_ 21), (0, .nameAndType 22 23), (0, u "com/example/stierlin/stierlin/wire/ApiKey"), (0, u "isFlexible"), (0, u "(S)Z"), (0, .fieldref 19 25), (0, .nameAndType 26 27), (0, u "PRODUCE"), (0, u "Lcom/example/stierlin/stierlin/wire/ApiKey;"), (0, .fieldref 19 29), (0, .nameAndType 30 27), (0, u "FETCH"), (0, .fieldref 19 32), (0, .nameAndType 33 27), (0, u "LIST_OFFSETS"), (0, .fieldref 19 35), (0, .nameAndType 36 27), (0, u "METADATA"), (0, .fieldref 19 38), (0, .nameAndType 39 27), (0, u "OFFSET_COMMIT"), (0, .fieldref 19 41), (0, .nameAndType 42 27), (0, u "OFFSET_FETCH"), (0, .fieldref 19 44), (0, .nameAndType 45 27), (0, u "FIND_COORDINATOR"), (0, .fieldref 19 47), (0, .nameAndType 48 27), (0, u "JOIN_GROUP"), (0, .fieldref 19 50), (0, .nameAndType 51 27), (0, u "HEARTBEAT"), (0, .fieldref 19 53), (0, .nameAndType 54 27), (0, u "LEAVE_GROUP"), (0, .fieldref 19 56), (0, .nameAndType 57 27), (0, u "SYNC_GROUP"), (0, .fieldref 19 59), (0, .nameAndType 60 27), (0, u "DESCRIBE_GROUPS"), (0, .fieldref 19 62), (0, .nameAndType 63 27), (0, u "LIST_GROUPS"), (0, .fieldref 19 65), (0, .nameAndType 66 27), (0, u "API_VERSIONS"), (0, .fieldref 19 68), (0, .nameAndType 69 27), (0, u "CREATE_TOPICS"), (0, .fieldref 19 71), (0, .nameAndType 72 27), (0, u "DELETE_TOPICS"), (0, .fieldref 19 74), (0, .nameAndType 75 27), (0, u "INIT_PRODUCER_ID"), (0, .fieldref 19 77), (0, .nameAndType 78 27), (0, u "DESCRIBE_CONFIGS"), (0, .fieldref 19 80), (0, .nameAndType 81 27), (0, u "ALTER_CONFIGS"), (0, .fieldref 19 83), (0, .nameAndType 84 27), (0, u "CREATE_PARTITIONS"), (0, .fieldref 19 86), (0, .nameAndType 87 27), (0, u "DELETE_GROUPS"), (0, .fieldref 19 89), (0, .nameAndType 90 27), (0, u "INCREMENTAL_ALTER_CONFIGS"), (0, .fieldref 19 92), (0, .nameAndType 93 27), (0, u "OFFSET_DELETE"), (0, .fieldref 19 95), (0, .nameAndType 96 27), (0, u "CLUSTER_SYNC"), (0, .fieldref 19 98), (0, .nameAndType 99 27), (0, u "CHANGE_TOPIC"), (2, u "law"), (0, u "(II)Z")] 3

def k1m0 : Method := { name := "<init>", desc := "()V", sig := { parameters := [], returnType := none }, accessFlags := 1, code := none }
def k1c1 : Code := { maxStack := 3, maxLocals := 9, code := code, exceptionTable := #[], attributes := #[] }
def k1m1 : Method := { name := "law", desc := "(II)Z", sig := { parameters := [.int, .int], returnType := some .boolean }, accessFlags := 9, code := some k1c1 }
def k1c2 : Code := { maxStack := 2, maxLocals := 1, code := method_3_code, exceptionTable := #[], attributes := #[] }
def k1m2 : Method := { name := "pick", desc := "(I)Lcom/example/stierlin/stierlin/wire/ApiKey;", sig := { parameters := [.int], returnType := some (.object "com/example/stierlin/stierlin/wire/ApiKey") }, accessFlags := 10, code := some k1c2 }
def k1c3 : Code := { maxStack := 2, maxLocals := 1, code := method_4_code, exceptionTable := #[], attributes := #[] }
def k1m3 : Method := { name := "first", desc := "(I)I", sig := { parameters := [.int], returnType := some .int }, accessFlags := 10, code := some k1c3 }
/-- com/example/stierlin/stierlin/wire/ApiKeyIsFlexiblePinLaw -/
def k1 : Class := { plain "com/example/stierlin/stierlin/wire/ApiKeyIsFlexiblePinLaw" (some 0) with
  accessFlags := 49
  interfaces := #[]
  cf := some (fileOf pool1 9 #[] #[{ accessFlags := 1, nameIndex := 5, descriptorIndex := 6, attributes := #[] }, { accessFlags := 9, nameIndex := 102, descriptorIndex := 103, attributes := #[] }, { accessFlags := 10, nameIndex := 12, descriptorIndex := 13, attributes := #[] }, { accessFlags := 10, nameIndex := 16, descriptorIndex := 17, attributes := #[] }] 49 2 #[] #[])
  fields := #[]
  methods := #[k1m0, k1m1, k1m2, k1m3]
  instanceTypes := #[]
  staticTypes := #[]
  resolved := Array.replicate 107 none
  statics := none }

def pool2 : Array CpInfo := pool [(1, .class_ 2), (0, u "java/lang/constant/Constable"), (0, .class_ 4), (0, u "java/lang/Object")] 6

/-- java/lang/constant/Constable -/
def k2 : Class := { plain "java/lang/constant/Constable" (some 0) with
  accessFlags := 1537
  interfaces := #[]
  cf := some (fileOf pool2 1 #[] #[] 1537 3 #[] #[])
  fields := #[]
  methods := #[]
  instanceTypes := #[]
  staticTypes := #[]
  resolved := Array.replicate 11 none
  statics := none }

def pool3 : Array CpInfo := pool [(1, .class_ 2), (0, u "java/lang/Comparable"), (0, .class_ 4), (0, u "java/lang/Object")] 7

/-- java/lang/Comparable -/
def k3 : Class := { plain "java/lang/Comparable" (some 0) with
  accessFlags := 1537
  interfaces := #[]
  cf := some (fileOf pool3 1 #[] #[] 1537 3 #[] #[])
  fields := #[]
  methods := #[]
  instanceTypes := #[]
  staticTypes := #[]
  resolved := Array.replicate 12 none
  statics := none }

def pool4 : Array CpInfo := pool [(1, .class_ 2), (0, u "java/io/Serializable"), (0, .class_ 4), (0, u "java/lang/Object")] 2

/-- java/io/Serializable -/
def k4 : Class := { plain "java/io/Serializable" (some 0) with
  accessFlags := 1537
  interfaces := #[]
  cf := some (fileOf pool4 1 #[] #[] 1537 3 #[] #[])
  fields := #[]
  methods := #[]
  instanceTypes := #[]
  staticTypes := #[]
  resolved := Array.replicate 7 none
  statics := none }

def pool5 : Array CpInfo := pool [(2, .class_ 4), (1, u "java/lang/Enum"), (0, u "name"), (0, u "Ljava/lang/String;"), (2, u "ordinal"), (0, u "I"), (1, .class_ 14), (1, u "java/lang/Object"), (4, u "hash"), (86, .class_ 108), (1, u "java/lang/Enum$EnumDesc"), (2, .class_ 112), (0, u "java/lang/constant/Constable"), (0, .class_ 114), (0, u "java/lang/Comparable"), (0, .class_ 116), (0, u "java/io/Serializable")] 87

/-- java/lang/Enum -/
def k5 : Class := { plain "java/lang/Enum" (some 0) with
  accessFlags := 1057
  interfaces := #[2, 3, 4]
  cf := some (fileOf pool5 2 #[.nestMembers #[106]] #[] 1057 12 #[111, 113, 115] #[{ accessFlags := 18, nameIndex := 5, descriptorIndex := 6, attributes := #[] }, { accessFlags := 18, nameIndex := 9, descriptorIndex := 10, attributes := #[] }, { accessFlags := 2, nameIndex := 19, descriptorIndex := 10, attributes := #[] }])
  fields := #[{ name := "name", type := (.object "java/lang/String"), accessFlags := 18, slot := 0, constantValue := 0 }, { name := "ordinal", type := .int, accessFlags := 18, slot := 1, constantValue := 0 }, { name := "hash", type := .int, accessFlags := 2, slot := 2, constantValue := 0 }]
  methods := #[]
  instanceTypes := #[(.object "java/lang/String"), .int, .int]
  staticTypes := #[]
  resolved := Array.replicate 204 none
  statics := none }

def pool6 : Array CpInfo := pool [(1, .class_ 2), (0, u "com/example/stierlin/stierlin/wire/ApiKey"), (2, u "PRODUCE"), (0, u "Lcom/example/stierlin/stierlin/wire/ApiKey;"), (2, u "FETCH"), (2, u "LIST_OFFSETS"), (2, u "METADATA"), (2, u "OFFSET_COMMIT"), (2, u "OFFSET_FETCH"), (2, u "FIND_COORDINATOR"), (2, u "JOIN_GROUP"), (2, u "HEARTBEAT"), (2, u "LEAVE_GROUP"), (2, u "SYNC_GROUP"), (2, u "DESCRIBE_GROUPS"), (2, u "LIST_GROUPS"), (2, u "API_VERSIONS"), (2, u "CREATE_TOPICS"), (2, u "DELETE_TOPICS"), (2, u "INIT_PRODUCER_ID"), (2, u "DESCRIBE_CONFIGS"), (2, u "ALTER_CONFIGS"), (2, u "CREATE_PARTITIONS"), (2, u "DELETE_GROUPS"), (2, u "INCREMENTAL_ALTER_CONFIGS"), (2, u "OFFSET_DELETE"), (2, u "CLUSTER_SYNC"), (2, u "CHANGE_TOPIC"), (2, u "$VALUES"), (0, u "[Lcom/example/stierlin/stierlin/wire/ApiKey;"), (6, .class_ 91), (1, u "java/lang/Enum"), (8, u "id"), (0, u "S"), (2, u "displayName"), (0, u "Ljava/lang/String;"), (0, .fieldref 1 107), (0, .nameAndType 108 101), (0, u "firstFlexibleVersion"), (93, u "isFlexible"), (0, u "(S)Z")] 6

def k6c0 : Code := { maxStack := 2, maxLocals := 2, code := prog_55_method_6_code, exceptionTable := #[], attributes := #[] }
def k6m0 : Method := { name := "isFlexible", desc := "(S)Z", sig := { parameters := [.short], returnType := some .boolean }, accessFlags := 1, code := some k6c0 }
/-- com/example/stierlin/stierlin/wire/ApiKey -/
def k6 : Class := { plain "com/example/stierlin/stierlin/wire/ApiKey" (some 5) with
  accessFlags := 16433
  interfaces := #[]
  cf := some (fileOf pool6 1 #[] #[{ accessFlags := 1, nameIndex := 202, descriptorIndex := 203, attributes := #[] }] 16433 89 #[] #[{ accessFlags := 16409, nameIndex := 5, descriptorIndex := 6, attributes := #[] }, { accessFlags := 16409, nameIndex := 9, descriptorIndex := 6, attributes := #[] }, { accessFlags := 16409, nameIndex := 12, descriptorIndex := 6, attributes := #[] }, { accessFlags := 16409, nameIndex := 15, descriptorIndex := 6, attributes := #[] }, { accessFlags := 16409, nameIndex := 18, descriptorIndex := 6, attributes := #[] }, { accessFlags := 16409, nameIndex := 21, descriptorIndex := 6, attributes := #[] }, { accessFlags := 16409, nameIndex := 24, descriptorIndex := 6, attributes := #[] }, { accessFlags := 16409, nameIndex := 27, descriptorIndex := 6, attributes := #[] }, { accessFlags := 16409, nameIndex := 30, descriptorIndex := 6, attributes := #[] }, { accessFlags := 16409, nameIndex := 33, descriptorIndex := 6, attributes := #[] }, { accessFlags := 16409, nameIndex := 36, descriptorIndex := 6, attributes := #[] }, { accessFlags := 16409, nameIndex := 39, descriptorIndex := 6, attributes := #[] }, { accessFlags := 16409, nameIndex := 42, descriptorIndex := 6, attributes := #[] }, { accessFlags := 16409, nameIndex := 45, descriptorIndex := 6, attributes := #[] }, { accessFlags := 16409, nameIndex := 48, descriptorIndex := 6, attributes := #[] }, { accessFlags := 16409, nameIndex := 51, descriptorIndex := 6, attributes := #[] }, { accessFlags := 16409, nameIndex := 54, descriptorIndex := 6, attributes := #[] }, { accessFlags := 16409, nameIndex := 57, descriptorIndex := 6, attributes := #[] }, { accessFlags := 16409, nameIndex := 60, descriptorIndex := 6, attributes := #[] }, { accessFlags := 16409, nameIndex := 63, descriptorIndex := 6, attributes := #[] }, { accessFlags := 16409, nameIndex := 66, descriptorIndex := 6, attributes := #[] }, { accessFlags := 16409, nameIndex := 69, descriptorIndex := 6, attributes := #[] }, { accessFlags := 16409, nameIndex := 72, descriptorIndex := 6, attributes := #[] }, { accessFlags := 16409, nameIndex := 75, descriptorIndex := 6, attributes := #[] }, { accessFlags := 16409, nameIndex := 78, descriptorIndex := 6, attributes := #[] }, { accessFlags := 18, nameIndex := 100, descriptorIndex := 101, attributes := #[] }, { accessFlags := 18, nameIndex := 104, descriptorIndex := 105, attributes := #[] }, { accessFlags := 18, nameIndex := 108, descriptorIndex := 101, attributes := #[] }, { accessFlags := 4122, nameIndex := 81, descriptorIndex := 82, attributes := #[] }])
  fields := #[{ name := "PRODUCE", type := (.object "com/example/stierlin/stierlin/wire/ApiKey"), accessFlags := 16409, slot := 0, constantValue := 0 }, { name := "FETCH", type := (.object "com/example/stierlin/stierlin/wire/ApiKey"), accessFlags := 16409, slot := 1, constantValue := 0 }, { name := "LIST_OFFSETS", type := (.object "com/example/stierlin/stierlin/wire/ApiKey"), accessFlags := 16409, slot := 2, constantValue := 0 }, { name := "METADATA", type := (.object "com/example/stierlin/stierlin/wire/ApiKey"), accessFlags := 16409, slot := 3, constantValue := 0 }, { name := "OFFSET_COMMIT", type := (.object "com/example/stierlin/stierlin/wire/ApiKey"), accessFlags := 16409, slot := 4, constantValue := 0 }, { name := "OFFSET_FETCH", type := (.object "com/example/stierlin/stierlin/wire/ApiKey"), accessFlags := 16409, slot := 5, constantValue := 0 }, { name := "FIND_COORDINATOR", type := (.object "com/example/stierlin/stierlin/wire/ApiKey"), accessFlags := 16409, slot := 6, constantValue := 0 }, { name := "JOIN_GROUP", type := (.object "com/example/stierlin/stierlin/wire/ApiKey"), accessFlags := 16409, slot := 7, constantValue := 0 }, { name := "HEARTBEAT", type := (.object "com/example/stierlin/stierlin/wire/ApiKey"), accessFlags := 16409, slot := 8, constantValue := 0 }, { name := "LEAVE_GROUP", type := (.object "com/example/stierlin/stierlin/wire/ApiKey"), accessFlags := 16409, slot := 9, constantValue := 0 }, { name := "SYNC_GROUP", type := (.object "com/example/stierlin/stierlin/wire/ApiKey"), accessFlags := 16409, slot := 10, constantValue := 0 }, { name := "DESCRIBE_GROUPS", type := (.object "com/example/stierlin/stierlin/wire/ApiKey"), accessFlags := 16409, slot := 11, constantValue := 0 }, { name := "LIST_GROUPS", type := (.object "com/example/stierlin/stierlin/wire/ApiKey"), accessFlags := 16409, slot := 12, constantValue := 0 }, { name := "API_VERSIONS", type := (.object "com/example/stierlin/stierlin/wire/ApiKey"), accessFlags := 16409, slot := 13, constantValue := 0 }, { name := "CREATE_TOPICS", type := (.object "com/example/stierlin/stierlin/wire/ApiKey"), accessFlags := 16409, slot := 14, constantValue := 0 }, { name := "DELETE_TOPICS", type := (.object "com/example/stierlin/stierlin/wire/ApiKey"), accessFlags := 16409, slot := 15, constantValue := 0 }, { name := "INIT_PRODUCER_ID", type := (.object "com/example/stierlin/stierlin/wire/ApiKey"), accessFlags := 16409, slot := 16, constantValue := 0 }, { name := "DESCRIBE_CONFIGS", type := (.object "com/example/stierlin/stierlin/wire/ApiKey"), accessFlags := 16409, slot := 17, constantValue := 0 }, { name := "ALTER_CONFIGS", type := (.object "com/example/stierlin/stierlin/wire/ApiKey"), accessFlags := 16409, slot := 18, constantValue := 0 }, { name := "CREATE_PARTITIONS", type := (.object "com/example/stierlin/stierlin/wire/ApiKey"), accessFlags := 16409, slot := 19, constantValue := 0 }, { name := "DELETE_GROUPS", type := (.object "com/example/stierlin/stierlin/wire/ApiKey"), accessFlags := 16409, slot := 20, constantValue := 0 }, { name := "INCREMENTAL_ALTER_CONFIGS", type := (.object "com/example/stierlin/stierlin/wire/ApiKey"), accessFlags := 16409, slot := 21, constantValue := 0 }, { name := "OFFSET_DELETE", type := (.object "com/example/stierlin/stierlin/wire/ApiKey"), accessFlags := 16409, slot := 22, constantValue := 0 }, { name := "CLUSTER_SYNC", type := (.object "com/example/stierlin/stierlin/wire/ApiKey"), accessFlags := 16409, slot := 23, constantValue := 0 }, { name := "CHANGE_TOPIC", type := (.object "com/example/stierlin/stierlin/wire/ApiKey"), accessFlags := 16409, slot := 24, constantValue := 0 }, { name := "id", type := .short, accessFlags := 18, slot := 3, constantValue := 0 }, { name := "displayName", type := (.object "java/lang/String"), accessFlags := 18, slot := 4, constantValue := 0 }, { name := "firstFlexibleVersion", type := .short, accessFlags := 18, slot := 5, constantValue := 0 }, { name := "$VALUES", type := (.array (.object "com/example/stierlin/stierlin/wire/ApiKey")), accessFlags := 4122, slot := 25, constantValue := 0 }]
  methods := #[k6m0]
  instanceTypes := #[(.object "java/lang/String"), .int, .int, .short, (.object "java/lang/String"), .short]
  staticTypes := #[(.object "com/example/stierlin/stierlin/wire/ApiKey"), (.object "com/example/stierlin/stierlin/wire/ApiKey"), (.object "com/example/stierlin/stierlin/wire/ApiKey"), (.object "com/example/stierlin/stierlin/wire/ApiKey"), (.object "com/example/stierlin/stierlin/wire/ApiKey"), (.object "com/example/stierlin/stierlin/wire/ApiKey"), (.object "com/example/stierlin/stierlin/wire/ApiKey"), (.object "com/example/stierlin/stierlin/wire/ApiKey"), (.object "com/example/stierlin/stierlin/wire/ApiKey"), (.object "com/example/stierlin/stierlin/wire/ApiKey"), (.object "com/example/stierlin/stierlin/wire/ApiKey"), (.object "com/example/stierlin/stierlin/wire/ApiKey"), (.object "com/example/stierlin/stierlin/wire/ApiKey"), (.object "com/example/stierlin/stierlin/wire/ApiKey"), (.object "com/example/stierlin/stierlin/wire/ApiKey"), (.object "com/example/stierlin/stierlin/wire/ApiKey"), (.object "com/example/stierlin/stierlin/wire/ApiKey"), (.object "com/example/stierlin/stierlin/wire/ApiKey"), (.object "com/example/stierlin/stierlin/wire/ApiKey"), (.object "com/example/stierlin/stierlin/wire/ApiKey"), (.object "com/example/stierlin/stierlin/wire/ApiKey"), (.object "com/example/stierlin/stierlin/wire/ApiKey"), (.object "com/example/stierlin/stierlin/wire/ApiKey"), (.object "com/example/stierlin/stierlin/wire/ApiKey"), (.object "com/example/stierlin/stierlin/wire/ApiKey"), (.array (.object "com/example/stierlin/stierlin/wire/ApiKey"))]
  resolved := Array.replicate 210 none
  statics := some 0 }

def pool7 : Array CpInfo := pool [(1, u "java/lang/Cloneable"), (0, .class_ 1), (0, u "java/lang/Object"), (0, .class_ 3)] 3

/-- java/lang/Cloneable -/
def k7 : Class := { plain "java/lang/Cloneable" (some 0) with
  accessFlags := 1537
  interfaces := #[]
  cf := some (fileOf pool7 2 #[] #[] 1537 4 #[] #[])
  fields := #[]
  methods := #[]
  instanceTypes := #[]
  staticTypes := #[]
  resolved := Array.replicate 8 none
  statics := none }

/-- the primitive byte -/
def k8 : Class := { plain "byte" none with kind := .primitive 'B', accessFlags := 0x411 }
/-- [B -/
def k9 : Class := { plain "[B" (some 0) with kind := .array 8 .byte, interfaces := #[7, 4], accessFlags := 1041 }

/-- the primitive int -/
def k10 : Class := { plain "int" none with kind := .primitive 'I', accessFlags := 0x411 }
/-- [I -/
def k11 : Class := { plain "[I" (some 0) with kind := .array 10 .int, interfaces := #[7, 4], accessFlags := 1041 }

def heap : Heap := #[{ cls := 6, slots := #[.ref 1, .ref 13, .ref 14, .ref 8, .ref 5, .ref 20, .ref 4, .ref 22, .ref 3, .ref 9, .ref 18, .ref 19, .ref 6, .ref 24, .ref 2, .ref 11, .ref 21, .ref 16, .ref 23, .ref 7, .ref 15, .ref 10, .ref 12, .ref 25, .ref 17, .null], vm := .statics 6 },
  { cls := 6, slots := #[.null, .int 0, .int 0, .int 0, .null, .int 9], vm := .none },
  { cls := 6, slots := #[.null, .int 1, .int 0, .int 0, .null, .int 5], vm := .none },
  { cls := 6, slots := #[.null, .int 2, .int 0, .int 0, .null, .int 4], vm := .none },
  { cls := 6, slots := #[.null, .int 3, .int 0, .int 0, .null, .int 3], vm := .none },
  { cls := 6, slots := #[.null, .int 4, .int 0, .int 0, .null, .int 8], vm := .none },
  { cls := 6, slots := #[.null, .int 5, .int 0, .int 0, .null, .int 3], vm := .none },
  { cls := 6, slots := #[.null, .int 6, .int 0, .int 0, .null, .int 2], vm := .none },
  { cls := 6, slots := #[.null, .int 7, .int 0, .int 0, .null, .int 9], vm := .none },
  { cls := 6, slots := #[.null, .int 8, .int 0, .int 0, .null, .int 4], vm := .none },
  { cls := 6, slots := #[.null, .int 9, .int 0, .int 0, .null, .int 1], vm := .none },
  { cls := 6, slots := #[.null, .int 10, .int 0, .int 0, .null, .int 4], vm := .none },
  { cls := 6, slots := #[.null, .int 11, .int 0, .int 0, .null, .int 32767], vm := .none },
  { cls := 6, slots := #[.null, .int 12, .int 0, .int 0, .null, .int 12], vm := .none },
  { cls := 6, slots := #[.null, .int 13, .int 0, .int 0, .null, .int 6], vm := .none },
  { cls := 6, slots := #[.null, .int 14, .int 0, .int 0, .null, .int 2], vm := .none },
  { cls := 6, slots := #[.null, .int 15, .int 0, .int 0, .null, .int 4], vm := .none },
  { cls := 6, slots := #[.null, .int 16, .int 0, .int 0, .null, .int 32767], vm := .none },
  { cls := 6, slots := #[.null, .int 17, .int 0, .int 0, .null, .int 4], vm := .none },
  { cls := 6, slots := #[.null, .int 18, .int 0, .int 0, .null, .int 5], vm := .none },
  { cls := 6, slots := #[.null, .int 19, .int 0, .int 0, .null, .int 6], vm := .none },
  { cls := 6, slots := #[.null, .int 20, .int 0, .int 0, .null, .int 2], vm := .none },
  { cls := 6, slots := #[.null, .int 21, .int 0, .int 0, .null, .int 6], vm := .none },
  { cls := 6, slots := #[.null, .int 22, .int 0, .int 0, .null, .int 2], vm := .none },
  { cls := 6, slots := #[.null, .int 23, .int 0, .int 0, .null, .int 3], vm := .none },
  { cls := 6, slots := #[.null, .int 24, .int 0, .int 0, .null, .int 32767], vm := .none }]
def classes : Array Class := #[k0, k1, k2, k3, k4, k5, k6, k7, k8, k9, k10, k11]
def interned : List (Array UInt16 × Addr) := []
def slotsUsed : Nat := 176
def theMethod : MethodId := ⟨1, 1⟩
def args0 : Array Value := #[.int 5, .int 6]
def aboutOver (below : List Frame) : State where
  vm := { classes := classes, interned := interned.toArray }
  heap := heap
  slotsUsed := slotsUsed
  threads := #[{ frames := .invoking theMethod args0 :: below }]
def below0 : List Frame := [.native { method := ⟨0, 0⟩, args := #[] }]
def about1 : State := aboutOver below0
def p0 : Program := .bare "" "" ""
def e0 : Env := launch0.env 0 0 0
theorem w_frames : about1.frames = Frame.invoking theMethod args0 :: below0 := rfl
set_option maxRecDepth 65536 in
theorem w_args : argsFit about1.vm theMethod args0 = true := by decide +kernel
set_option maxRecDepth 65536 in
theorem w_heap : heapFits about1 = true := by decide +kernel
set_option maxRecDepth 65536 in
theorem w_runnable : about1.curStatus? = some .runnable := by decide +kernel
set_option maxRecDepth 65536 in
theorem w_alone : about1.alone = true := by decide +kernel
set_option maxRecDepth 65536 in
theorem w_named : about1.methodNamed? x = some theMethod := by decide +kernel
set_option maxRecDepth 65536 in
theorem w_hears : about1.hears theMethod below0 = true := by decide +kernel
set_option maxRecDepth 65536 in
theorem w_ripe : about1.ripe theMethod args0 below0 = true := by decide +kernel
theorem w_running : about1.status = .running := rfl
set_option maxRecDepth 65536 in
theorem w_room : about1.hasRoom e0.platform room_1 = true :=
  launch0.hasRoom_least _ room_1 (by decide +kernel) (by decide +kernel) (by decide +kernel) (by decide +kernel) (by decide +kernel) (by decide +kernel)
theorem allAtoms_all (ts : List Jvm.Cond) (a : Array Jvm.Value) (st : Jvm.State) : (allAtoms ts).before a st = ts.all (fun c => c.before a st) := by
  induction ts with
  | nil => rfl
  | cons c t ih =>
    show (Jvm.Cond.and c (allAtoms t)).before a st = _
    rw [Jvm.Cond.before_and, ih, List.all_cons]
def words1 : List Jvm.Cond := Jvm.Cond.code x code maxLocals ret :: tables_1
/-- a 'code' word, met by the world's own term for the bytes: nothing is compared byte by byte -/
theorem code_word {y : MethodName} {bytes : ByteArray} {mx : Nat} {rt : Option FieldType} {a : Array Value} {s : State} {m : MethodId} {meth : Method} {c : Code} (h1 : s.methodNamed? y = some m) (h2 : s.vm.method? m = some meth) (h3 : meth.code = some c) (h4 : c.code = bytes)
    (h5 : (c.maxLocals == mx && c.exceptionTable.isEmpty && decide (c.maxStack ≤ mostOperands) && decide (meth.sig.returnType = rt) && !meth.locks && decide (parseMethodDescriptor y.desc = some meth.sig)) = true) : (Jvm.Cond.code y bytes mx rt).before a s = true := by
  simp only [Bool.and_eq_true, beq_iff_eq, Bool.not_eq_true', decide_eq_true_eq] at h5
  obtain ⟨⟨⟨⟨⟨g1, g2⟩, g3⟩, g4⟩, g5⟩, g6⟩ := h5
  simp [Cond.before, Cond.holds, Cond.value, h1, h2, h3, h4, g1, g2, g3, g4, g5, g6]
def isCode : Jvm.Cond → Bool
  | .code _ _ _ _ => true
  | _ => false
theorem all_split {L : List Jvm.Cond} {P : Jvm.Cond → Bool} (h1 : L.all (fun c => isCode c || P c) = true) (h2 : ∀ c ∈ L.filter isCode, P c = true) : L.all P = true := by
  refine List.all_eq_true.mpr fun c hc => ?_
  have h := List.all_eq_true.mp h1 c hc
  rcases Bool.eq_false_or_eq_true (isCode c) with hi | hi
  · exact h2 c (List.mem_filter.mpr ⟨hc, hi⟩)
  · simpa [hi] using h
set_option maxRecDepth 65536 in
theorem w_c0 : (Jvm.Cond.code x code maxLocals ret).before args0 about1 = true := code_word (m := ⟨1, 1⟩) (meth := k1m1) (c := k1c1) (by decide +kernel) rfl rfl rfl (by decide +kernel)
set_option maxRecDepth 65536 in
theorem w_c1 : (Jvm.Cond.code ({ cls := "com/example/stierlin/stierlin/wire/ApiKeyIsFlexiblePinLaw", name := "pick", desc := "(I)Lcom/example/stierlin/stierlin/wire/ApiKey;" } : Jvm.MethodName) method_3_code (1 : Nat) (Option.some (Jvm.ClassFile.FieldType.object "com/example/stierlin/stierlin/wire/ApiKey"))).before args0 about1 = true := code_word (m := ⟨1, 2⟩) (meth := k1m2) (c := k1c2) (by decide +kernel) rfl rfl rfl (by decide +kernel)
set_option maxRecDepth 65536 in
theorem w_c2 : (Jvm.Cond.code ({ cls := "com/example/stierlin/stierlin/wire/ApiKeyIsFlexiblePinLaw", name := "first", desc := "(I)I" } : Jvm.MethodName) method_4_code (1 : Nat) (Option.some Jvm.ClassFile.FieldType.int)).before args0 about1 = true := code_word (m := ⟨1, 3⟩) (meth := k1m3) (c := k1c3) (by decide +kernel) rfl rfl rfl (by decide +kernel)
set_option maxRecDepth 65536 in
theorem w_c3 : (Jvm.Cond.code ({ cls := "com/example/stierlin/stierlin/wire/ApiKey", name := "isFlexible", desc := "(S)Z" } : Jvm.MethodName) prog_55_method_6_code (2 : Nat) (Option.some Jvm.ClassFile.FieldType.boolean)).before args0 about1 = true := code_word (m := ⟨6, 0⟩) (meth := k6m0) (c := k6c0) (by decide +kernel) rfl rfl rfl (by decide +kernel)
def codes1 : List Jvm.Cond := [Jvm.Cond.code x code maxLocals ret, Jvm.Cond.code ({ cls := "com/example/stierlin/stierlin/wire/ApiKeyIsFlexiblePinLaw", name := "pick", desc := "(I)Lcom/example/stierlin/stierlin/wire/ApiKey;" } : Jvm.MethodName) method_3_code (1 : Nat) (Option.some (Jvm.ClassFile.FieldType.object "com/example/stierlin/stierlin/wire/ApiKey")), Jvm.Cond.code ({ cls := "com/example/stierlin/stierlin/wire/ApiKeyIsFlexiblePinLaw", name := "first", desc := "(I)I" } : Jvm.MethodName) method_4_code (1 : Nat) (Option.some Jvm.ClassFile.FieldType.int), Jvm.Cond.code ({ cls := "com/example/stierlin/stierlin/wire/ApiKey", name := "isFlexible", desc := "(S)Z" } : Jvm.MethodName) prog_55_method_6_code (2 : Nat) (Option.some Jvm.ClassFile.FieldType.boolean)]
set_option maxRecDepth 65536 in
theorem codes_eq : words1.filter isCode = codes1 := rfl
theorem w_codes : ∀ c ∈ words1.filter isCode, c.before args0 about1 = true := by
  rw [codes_eq]
  intro c hc
  simp only [codes1, List.mem_cons, List.not_mem_nil, or_false] at hc
  rcases hc with rfl | rfl | rfl | rfl
  · exact w_c0
  · exact w_c1
  · exact w_c2
  · exact w_c3
set_option maxRecDepth 65536 in
theorem w_t1 : (words1.take 24).all (fun c => isCode c || c.before args0 about1) = true := by decide +kernel
set_option maxRecDepth 65536 in
theorem w_t2 : ((words1.drop 24).take 24).all (fun c => isCode c || c.before args0 about1) = true := by decide +kernel
set_option maxRecDepth 65536 in
theorem w_t3 : ((words1.drop 24).drop 24).all (fun c => isCode c || c.before args0 about1) = true := by decide +kernel
theorem w_tables : (allAtoms (Jvm.Cond.code x code maxLocals ret :: tables_1)).before args0 about1 = true := by
  rw [allAtoms_all]
  show words1.all (fun c => c.before args0 about1) = true
  refine all_split ?_ w_codes
  rw [← List.take_append_drop 24 words1, List.all_append, w_t1, ← List.take_append_drop 24 (words1.drop 24), List.all_append, w_t2, w_t3]
  rfl
set_option maxRecDepth 65536 in
theorem w_case : (Jvm.Cond.and given_1 narrow_1).before args0 about1 = true := by decide +kernel
theorem w_applies : (headSpec (Jvm.Cond.code x code maxLocals ret :: tables_1) room_1).applies x e0.platform about1 = true :=
  (Spec.applies_iff w_frames).mpr ⟨w_running, w_runnable, w_alone, w_named, w_hears, w_ripe, w_room, w_tables⟩
theorem atStart : AtStart classFile x code maxLocals ret World_1 tables_1 room_1 Calls_1 rest_1 Pre_1 launch0 p0 e0 about1 theMethod args0 below0 :=
  ⟨lists_1, trivial, launch0.admits_env _ _ _, launch0.least_env, fairChoices_fair.cas, fairChoices_fair.clock, w_frames, w_args, w_heap, w_applies, trivial, trivial, w_case⟩
end start1
theorem witness_1 : WitnessClaimed_1 := ⟨start1.p0, start1.e0, start1.about1, start1.theMethod, start1.args0, start1.below0, start1.atStart⟩
end Jvm.Pilot.@@N@@
