import JvmDerived
import JvmDerived.Pilot.@@N@@Statement
import JvmDerived.Pilot.@@N@@Code
set_option linter.unusedVariables false
set_option linter.unusedSimpArgs false
@@BLOCK:NumsL.lean.txt@@
namespace Jvm.RoadKit
open Sem ClassFile Op Lib Jvm.Stand Jvm.Free Jvm.LawKit
section New
variable {p : Program} {l : Launch} {e : Env} {R : Room} {s : State} {m : MethodId} {args : Array Value} {below : List Frame} {meth : Method} {c : Code} {T : State} {locs : List Loc} {cells slots : Nat}
theorem retI (X : Stand p l e R s m args below meth c T locs cells slots) (hx : p.tables.exec = Jvm.exec) {pc : Nat} {Ls : Array Slot} {z : Int32} {rest : List Value} (hret : meth.sig.returnType = some .int) (hd : decode c.code pc = .ok (.ireturn, 1)) {fs : List Frame}
    (hl : ∀ (f : JFrame) (acts : List Action), f.method = m → f.locked = none → f.entered = [] → (doReturn e (T.setTop f) acts (some (.int z))).1 = T.setFrames fs) : Steps p.tables e below (T.setTop (mkF m pc Ls (.int z :: rest))) (T.setFrames fs) := by
  have hm' : T.vm.method? m = some meth := X.method'
  have hn : narrow .int (.int z) = .int z := rfl
  show Steps p.tables e below (T.setTop { method := m, pc := pc, locals := Ls, stack := _ :: rest, locked := none }) _
  jvm_step X.here [X.here.top, hx, hd, hm', hret, hn]
  first | (intro acts; rw [hl _ acts rfl rfl rfl]) | rw [hl _ _ rfl rfl rfl]
  exact Steps.refl _
end New
end Jvm.RoadKit
namespace Jvm.Pilot.@@N@@
open Jvm Jvm.ClassFile Sem Op Lib Jvm.Free Jvm.Stand Jvm.LawKit Jvm.RoadKit Bundle Jvm.Pilot.@@N@@.Jvm.D
theorem pn_0 : plainName "com/example/nodearc/nodearc/io/NTriplesGrammar" = true := by first | (simp [plainName, overriddenIn]; done) | decide +kernel
theorem pn_1 : plainName "java/lang/String" = true := by first | (simp [plainName, overriddenIn]; done) | decide +kernel
theorem pn_2 : plainName "jdk/internal/util/Preconditions" = true := by first | (simp [plainName, overriddenIn]; done) | decide +kernel
theorem pd_0 : parseMethodDescriptor "(IILjava/util/function/BiFunction;)I" = some ⟨[.int, .int, (.object "java/util/function/BiFunction")], some .int⟩ := by decide +kernel
theorem pn_3 : plainName "java/lang/StringLatin1" = true := by first | (simp [plainName, overriddenIn]; done) | decide +kernel
theorem pd_1 : parseMethodDescriptor "(II)V" = some ⟨[.int, .int], none⟩ := by decide +kernel
theorem pd_2 : parseMethodDescriptor "()Z" = some ⟨[], some .boolean⟩ := by decide +kernel
theorem pd_3 : parseMethodDescriptor "([BI)C" = some ⟨[(.array .byte), .int], some .char⟩ := by decide +kernel
theorem pn_4 : plainName "com/example/nodearc/nodearc/io/NTriplesGrammarHexValuePinLaw" = true := by first | (simp [plainName, overriddenIn]; done) | decide +kernel
theorem pd_4 : parseMethodDescriptor "(C)I" = some ⟨[.char], some .int⟩ := by decide +kernel
theorem pd_5 : parseMethodDescriptor "(I)C" = some ⟨[.int], some .char⟩ := by decide +kernel

theorem own_of (n : Nat) (h : n ≤ 4000) : (Int32.ofNat n).toInt = n := by
  have q : (Int32.ofNat n).toInt = (n : Int).bmod (2 ^ 32) := by simp [Int32.toInt_ofNat']
  rw [q, Int.bmod_def]; omega
theorem own_ix {ln : Int32} {cs : List Int32} {i : Nat} (hl : ln = Int32.ofNat cs.length ∧ cs.length ≤ 4000) (hi : i < cs.length) : ¬ Int32.ofNat i < (0 : Int32) ∧ Int32.ofNat i < ln := by
  have e1 := own_of i (by omega); have e2 := own_of cs.length hl.2
  rw [hl.1]
  constructor
  · rw [Int32.lt_iff_toInt_lt, e1, Int32.toInt_zero]; omega
  · rw [Int32.lt_iff_toInt_lt, e1, e2]; omega
theorem own_cl {n : Nat} (h : n ≤ 4000) : (Int32.ofNat n).toNatClampNeg = n := by
  show (Int32.ofNat n).toInt.toNat = n
  rw [own_of n h]; omega
theorem own_bat {ln : Int32} {cs : List Int32} {i : Nat} (hl : ln = Int32.ofNat cs.length ∧ cs.length ≤ 4000) (hi : i < cs.length) : ((cs.map fun c => c.toInt8.toInt32).map Value.int).getD (Int32.ofNat i).toNatClampNeg (.int (0 : Int32)) = .int (cs.getD i 0).toInt8.toInt32 := by
  rw [own_cl (by omega)]
  simp [List.getD_eq_getElem?_getD, hi]
theorem own_byte : ∀ k : Fin 256, nar .char ((((Int32.ofNat k.val).toInt8.toInt32) &&& (255 : Int32)).toUInt32.toUInt16.toUInt32.toInt32) = Int32.ofNat k.val ∧ nar .char (Int32.ofNat k.val) = Int32.ofNat k.val := by decide +kernel
theorem own_lat {c : Int32} (h : ¬ c < 0 ∧ ¬ (255 : Int32) < c) : ∃ k : Fin 256, c = Int32.ofNat k.val := by
  have e : (255 : Int32).toInt = 255 := by decide
  rw [Int32.lt_iff_toInt_lt, Int32.lt_iff_toInt_lt, e, Int32.toInt_zero] at h
  refine ⟨⟨c.toInt.toNat, by omega⟩, Int32.toInt_inj.mp ?_⟩
  rw [own_of _ (show c.toInt.toNat ≤ 4000 by omega)]; omega
theorem own_get {cs : List Int32} {i : Nat} (hcs : ∀ c ∈ cs, ¬ c < 0 ∧ ¬ (255 : Int32) < c) (hi : i < cs.length) : ∃ k : Fin 256, cs.getD i 0 = Int32.ofNat k.val := by
  apply own_lat; apply hcs
  rw [List.getD_eq_getElem?_getD, List.getElem?_eq_getElem hi]; exact List.getElem_mem hi
theorem own_b2c {cs : List Int32} {i : Nat} (hcs : ∀ c ∈ cs, ¬ c < 0 ∧ ¬ (255 : Int32) < c) (hi : i < cs.length) : nar .char ((((cs.getD i 0).toInt8.toInt32) &&& (255 : Int32)).toUInt32.toUInt16.toUInt32.toInt32) = cs.getD i 0 := by
  obtain ⟨k, e⟩ := own_get hcs hi; rw [e]; exact (own_byte k).1
theorem own_charnar {cs : List Int32} {i : Nat} (hcs : ∀ c ∈ cs, ¬ c < 0 ∧ ¬ (255 : Int32) < c) (hi : i < cs.length) : nar .char (cs.getD i 0) = cs.getD i 0 := by
  obtain ⟨k, e⟩ := own_get hcs hi; rw [e]; exact (own_byte k).2

theorem d1_0 : decode prog_81_method_13_code 0 = .ok (.iload_n 0, 1) := by decide +kernel
theorem d1_1 : decode prog_81_method_13_code 1 = .ok (.bipush 48, 2) := by decide +kernel
theorem d1_3 : decode prog_81_method_13_code 3 = .ok (.if_icmp .lt 17, 3) := by decide +kernel
theorem d1_6 : decode prog_81_method_13_code 6 = .ok (.iload_n 0, 1) := by decide +kernel
theorem d1_7 : decode prog_81_method_13_code 7 = .ok (.bipush 57, 2) := by decide +kernel
theorem d1_9 : decode prog_81_method_13_code 9 = .ok (.if_icmp .gt 11, 3) := by decide +kernel
theorem d1_12 : decode prog_81_method_13_code 12 = .ok (.iload_n 0, 1) := by decide +kernel
theorem d1_13 : decode prog_81_method_13_code 13 = .ok (.bipush 48, 2) := by decide +kernel
theorem d1_15 : decode prog_81_method_13_code 15 = .ok (.isub, 1) := by decide +kernel
theorem d1_16 : decode prog_81_method_13_code 16 = .ok (.istore_n 1, 1) := by decide +kernel
theorem d1_17 : decode prog_81_method_13_code 17 = .ok (.goto 51, 3) := by decide +kernel
theorem d1_20 : decode prog_81_method_13_code 20 = .ok (.iload_n 0, 1) := by decide +kernel
theorem d1_21 : decode prog_81_method_13_code 21 = .ok (.bipush 65, 2) := by decide +kernel
theorem d1_23 : decode prog_81_method_13_code 23 = .ok (.if_icmp .lt 20, 3) := by decide +kernel
theorem d1_26 : decode prog_81_method_13_code 26 = .ok (.iload_n 0, 1) := by decide +kernel
theorem d1_27 : decode prog_81_method_13_code 27 = .ok (.bipush 70, 2) := by decide +kernel
theorem d1_29 : decode prog_81_method_13_code 29 = .ok (.if_icmp .gt 14, 3) := by decide +kernel
theorem d1_32 : decode prog_81_method_13_code 32 = .ok (.iload_n 0, 1) := by decide +kernel
theorem d1_33 : decode prog_81_method_13_code 33 = .ok (.bipush 65, 2) := by decide +kernel
theorem d1_35 : decode prog_81_method_13_code 35 = .ok (.isub, 1) := by decide +kernel
theorem d1_36 : decode prog_81_method_13_code 36 = .ok (.bipush 10, 2) := by decide +kernel
theorem d1_38 : decode prog_81_method_13_code 38 = .ok (.iadd, 1) := by decide +kernel
theorem d1_39 : decode prog_81_method_13_code 39 = .ok (.istore_n 1, 1) := by decide +kernel
theorem d1_40 : decode prog_81_method_13_code 40 = .ok (.goto 28, 3) := by decide +kernel
theorem d1_43 : decode prog_81_method_13_code 43 = .ok (.iload_n 0, 1) := by decide +kernel
theorem d1_44 : decode prog_81_method_13_code 44 = .ok (.bipush 97, 2) := by decide +kernel
theorem d1_46 : decode prog_81_method_13_code 46 = .ok (.if_icmp .lt 20, 3) := by decide +kernel
theorem d1_49 : decode prog_81_method_13_code 49 = .ok (.iload_n 0, 1) := by decide +kernel
theorem d1_50 : decode prog_81_method_13_code 50 = .ok (.bipush 102, 2) := by decide +kernel
theorem d1_52 : decode prog_81_method_13_code 52 = .ok (.if_icmp .gt 14, 3) := by decide +kernel
theorem d1_55 : decode prog_81_method_13_code 55 = .ok (.iload_n 0, 1) := by decide +kernel
theorem d1_56 : decode prog_81_method_13_code 56 = .ok (.bipush 97, 2) := by decide +kernel
theorem d1_58 : decode prog_81_method_13_code 58 = .ok (.isub, 1) := by decide +kernel
theorem d1_59 : decode prog_81_method_13_code 59 = .ok (.bipush 10, 2) := by decide +kernel
theorem d1_61 : decode prog_81_method_13_code 61 = .ok (.iadd, 1) := by decide +kernel
theorem d1_62 : decode prog_81_method_13_code 62 = .ok (.istore_n 1, 1) := by decide +kernel
theorem d1_63 : decode prog_81_method_13_code 63 = .ok (.goto 5, 3) := by decide +kernel
theorem d1_66 : decode prog_81_method_13_code 66 = .ok (.iconst (-1), 1) := by decide +kernel
theorem d1_67 : decode prog_81_method_13_code 67 = .ok (.istore_n 1, 1) := by decide +kernel
theorem d1_68 : decode prog_81_method_13_code 68 = .ok (.iload_n 1, 1) := by decide +kernel
theorem d1_69 : decode prog_81_method_13_code 69 = .ok (.ireturn, 1) := by decide +kernel
def own_f1_68 (p1 : Int32) (l1 : Int32) : Int32 := l1
def own_f1_66 (p1 : Int32) : Int32 := (own_f1_68 p1 (-1 : Int32))
def own_f1_43 (p1 : Int32) : Int32 := (if p1 < (97 : Int32) then (own_f1_66 p1 ) else (if (102 : Int32) < p1 then (own_f1_66 p1 ) else (own_f1_68 p1 ((p1 - (97 : Int32)) + (10 : Int32)))))
def own_f1_20 (p1 : Int32) : Int32 := (if p1 < (65 : Int32) then (own_f1_43 p1 ) else (if (70 : Int32) < p1 then (own_f1_43 p1 ) else (own_f1_68 p1 ((p1 - (65 : Int32)) + (10 : Int32)))))
def own_f1 (p1 : Int32) : Int32 := (if p1 < (48 : Int32) then (own_f1_20 p1 ) else (if (57 : Int32) < p1 then (own_f1_20 p1 ) else (own_f1_68 p1 (p1 - (48 : Int32)))))
def Q1 (p1 : Int32) (h0 : Heap) (n0 : Nat) (v : Option Value) (h : Heap) (L : List Loc) : Prop := v = some (.int (own_f1 p1)) ∧ Fr n0 L ∧ h = h0
theorem ef_1 (m : MethodId) (x0 : Int32) : entryFrame m #[(.int x0)] 2 = mkF m 0 #[.val (.int x0), .unset] [] := by first | (simp [entryFrame, mkF, argsToLocals, Value.category]; done) | rfl
set_option maxRecDepth 65536 in
set_option maxHeartbeats 40000000 in
theorem rm1 (l : Launch) (Z : State) (a0 : Array Value) (hw : ∀ d ∈ tables_1, d.before a0 Z = true) (ws : List Jvm.Cond) (p1 : Int32) (h0 : Heap) (n0 : Nat) :
    MetFree l (⟨"com/example/nodearc/nodearc/io/NTriplesGrammar", "hexValue", "(C)I"⟩ : MethodName) (head1 (Jvm.Cond.code (⟨"com/example/nodearc/nodearc/io/NTriplesGrammar", "hexValue", "(C)I"⟩ : MethodName) prog_81_method_13_code 2 (some .int) :: ws) ({ frames := 0, cells := 0, slots := 0, locals := 0 } : Room)) (fun a U => a = #[(.int p1)] ∧ Z.Warmed39 U.vm ∧ U.heap = h0) (fun _ _ _ _ _ => True) (fun _ U o U' => ∃ v L, o = .returned v ∧ Q1 p1 h0 n0 v U'.heap L ∧ FrameEnd U o U' L ({ frames := 0, cells := 0, slots := 0, locals := 0 } : Room).cells ({ frames := 0, cells := 0, slots := 0, locals := 0 } : Room).slots) := by
  refine MetFree.of_bodySF (plainFor_of_name pn_0) hisR ?_
  intro p e s m args below meth c s₁ Bd hml0 hP hK
  obtain ⟨rfl, hZ, hh⟩ := hP
  have hx := Bd.exec
  have hby := Bd.bytes
  have hml : c.maxLocals = 2 := hml0
  have hown : s.vm.findClass "com/example/nodearc/nodearc/io/NTriplesGrammar" = some m.cls := findClass_of_methodNamed Bd.named
  have hnm := (name_of_methodNamed Bd.named Bd.method).1
  have X0 : Stand p l e ({ frames := 0, cells := 0, slots := 0, locals := 0 } : Room) s m #[(.int p1)] below meth c s₁ [] 0 0 := Stand.of_body Bd
  have e0 : s₁.heap = h0 := by rw [← hh, Bd.state]; rfl
  have N0 := Fr.nil n0
  have pre0 : ∀ t, Steps p.tables e below (s₁.setTop (mkF m 0 #[.val (.int p1), .unset] [])) t → Steps p.tables e below (s₁.setTop (entryFrame m #[(.int p1)] 2)) t := fun t k => castTop (ef_1 m p1) k
  obtain ⟨fs, hr, hrun, hended, hW, hsame⟩ := X0.leave (v := some (.int (own_f1 p1))) (fun h => by rw [Bd.returns] at h; cases h)
  refine ⟨_, _, pre0 _ ?_, hrun, hended, _, _, rfl, ?_, ⟨_, rfl⟩, hW, hsame.mono (by decide) (by decide)⟩
  · skip
    have J68 : ∀ (l1 : Int32) (hv : own_f1 p1 = own_f1_68 p1 l1), Steps p.tables e below (s₁.setTop (mkF m 68 #[.val (.int p1), .val (.int l1)] [])) (s₁.setFrames fs) := by
      intro l1 hv
      show Steps p.tables e below (s₁.setTop (mkF m 68 #[.val (.int p1), .val (.int l1)] [])) _
      refine XS.iloadN X0.here hx rfl (hb hby d1_68) rfl ?_
      show Steps p.tables e below (s₁.setTop (mkF m 69 #[.val (.int p1), .val (.int l1)] [(.int l1)])) _
      rw [hv] at hr
      exact retI X0 hx Bd.returns (hb hby d1_69) hr
    have J66 : ∀ (hv : own_f1 p1 = own_f1_66 p1 ), Steps p.tables e below (s₁.setTop (mkF m 66 #[.val (.int p1), .unset] [])) (s₁.setFrames fs) := by
      intro hv
      show Steps p.tables e below (s₁.setTop (mkF m 66 #[.val (.int p1), .unset] [])) _
      refine XS.iconst X0.here hx rfl (hb hby d1_66) ?_
      show Steps p.tables e below (s₁.setTop (mkF m 67 #[.val (.int p1), .unset] [(.int (-1 : Int32))])) _
      refine XS.istoreN X0.here hx rfl (hb hby d1_67) rfl (l' := #[.val (.int p1), .val (.int (-1 : Int32))]) rfl ?_
      exact J68 (-1 : Int32) hv
    have J43 : ∀ (hv : own_f1 p1 = own_f1_43 p1 ), Steps p.tables e below (s₁.setTop (mkF m 43 #[.val (.int p1), .unset] [])) (s₁.setFrames fs) := by
      intro hv
      show Steps p.tables e below (s₁.setTop (mkF m 43 #[.val (.int p1), .unset] [])) _
      refine XS.iloadN X0.here hx rfl (hb hby d1_43) rfl ?_
      show Steps p.tables e below (s₁.setTop (mkF m 44 #[.val (.int p1), .unset] [(.int p1)])) _
      refine XS.bipush X0.here hx rfl (hb hby d1_44) ?_
      show Steps p.tables e below (s₁.setTop (mkF m 46 #[.val (.int p1), .unset] [(.int (97 : Int32)), (.int p1)])) _
      by_cases hc46 : p1 < (97 : Int32)
      · replace hv := hv.trans (if_pos hc46)
        refine XS.icmpYes X0.here hx rfl (pc0 := 46) (pc' := 66) rfl (hb hby d1_46) rfl (tlt hc46).1 (by decide) (by decide) ?_
        exact J66  hv
      · replace hv := hv.trans (if_neg hc46)
        refine XS.icmpNo X0.here hx rfl (hb hby d1_46) rfl (flt hc46).1 ?_
        show Steps p.tables e below (s₁.setTop (mkF m 49 #[.val (.int p1), .unset] [])) _
        refine XS.iloadN X0.here hx rfl (hb hby d1_49) rfl ?_
        show Steps p.tables e below (s₁.setTop (mkF m 50 #[.val (.int p1), .unset] [(.int p1)])) _
        refine XS.bipush X0.here hx rfl (hb hby d1_50) ?_
        show Steps p.tables e below (s₁.setTop (mkF m 52 #[.val (.int p1), .unset] [(.int (102 : Int32)), (.int p1)])) _
        by_cases hc52 : (102 : Int32) < p1
        · replace hv := hv.trans (if_pos hc52)
          refine XS.icmpYes X0.here hx rfl (pc0 := 52) (pc' := 66) rfl (hb hby d1_52) rfl (tlt hc52).2.2.1 (by decide) (by decide) ?_
          exact J66  hv
        · replace hv := hv.trans (if_neg hc52)
          refine XS.icmpNo X0.here hx rfl (hb hby d1_52) rfl (flt hc52).2.2.1 ?_
          show Steps p.tables e below (s₁.setTop (mkF m 55 #[.val (.int p1), .unset] [])) _
          refine XS.iloadN X0.here hx rfl (hb hby d1_55) rfl ?_
          show Steps p.tables e below (s₁.setTop (mkF m 56 #[.val (.int p1), .unset] [(.int p1)])) _
          refine XS.bipush X0.here hx rfl (hb hby d1_56) ?_
          show Steps p.tables e below (s₁.setTop (mkF m 58 #[.val (.int p1), .unset] [(.int (97 : Int32)), (.int p1)])) _
          refine XS.isub X0.here hx rfl (hb hby d1_58) rfl ?_
          show Steps p.tables e below (s₁.setTop (mkF m 59 #[.val (.int p1), .unset] [(.int (p1 - (97 : Int32)))])) _
          refine XS.bipush X0.here hx rfl (hb hby d1_59) ?_
          show Steps p.tables e below (s₁.setTop (mkF m 61 #[.val (.int p1), .unset] [(.int (10 : Int32)), (.int (p1 - (97 : Int32)))])) _
          refine XS.iadd X0.here hx rfl (hb hby d1_61) rfl ?_
          show Steps p.tables e below (s₁.setTop (mkF m 62 #[.val (.int p1), .unset] [(.int ((p1 - (97 : Int32)) + (10 : Int32)))])) _
          refine XS.istoreN X0.here hx rfl (hb hby d1_62) rfl (l' := #[.val (.int p1), .val (.int ((p1 - (97 : Int32)) + (10 : Int32)))]) rfl ?_
          show Steps p.tables e below (s₁.setTop (mkF m 63 #[.val (.int p1), .val (.int ((p1 - (97 : Int32)) + (10 : Int32)))] [])) _
          refine XS.goto X0.here hx rfl (pc0 := 63) (pc' := 68) rfl (hb hby d1_63) (by decide) (by decide) ?_
          exact J68 ((p1 - (97 : Int32)) + (10 : Int32)) hv
    have J20 : ∀ (hv : own_f1 p1 = own_f1_20 p1 ), Steps p.tables e below (s₁.setTop (mkF m 20 #[.val (.int p1), .unset] [])) (s₁.setFrames fs) := by
      intro hv
      show Steps p.tables e below (s₁.setTop (mkF m 20 #[.val (.int p1), .unset] [])) _
      refine XS.iloadN X0.here hx rfl (hb hby d1_20) rfl ?_
      show Steps p.tables e below (s₁.setTop (mkF m 21 #[.val (.int p1), .unset] [(.int p1)])) _
      refine XS.bipush X0.here hx rfl (hb hby d1_21) ?_
      show Steps p.tables e below (s₁.setTop (mkF m 23 #[.val (.int p1), .unset] [(.int (65 : Int32)), (.int p1)])) _
      by_cases hc23 : p1 < (65 : Int32)
      · replace hv := hv.trans (if_pos hc23)
        refine XS.icmpYes X0.here hx rfl (pc0 := 23) (pc' := 43) rfl (hb hby d1_23) rfl (tlt hc23).1 (by decide) (by decide) ?_
        exact J43  hv
      · replace hv := hv.trans (if_neg hc23)
        refine XS.icmpNo X0.here hx rfl (hb hby d1_23) rfl (flt hc23).1 ?_
        show Steps p.tables e below (s₁.setTop (mkF m 26 #[.val (.int p1), .unset] [])) _
        refine XS.iloadN X0.here hx rfl (hb hby d1_26) rfl ?_
        show Steps p.tables e below (s₁.setTop (mkF m 27 #[.val (.int p1), .unset] [(.int p1)])) _
        refine XS.bipush X0.here hx rfl (hb hby d1_27) ?_
        show Steps p.tables e below (s₁.setTop (mkF m 29 #[.val (.int p1), .unset] [(.int (70 : Int32)), (.int p1)])) _
        by_cases hc29 : (70 : Int32) < p1
        · replace hv := hv.trans (if_pos hc29)
          refine XS.icmpYes X0.here hx rfl (pc0 := 29) (pc' := 43) rfl (hb hby d1_29) rfl (tlt hc29).2.2.1 (by decide) (by decide) ?_
          exact J43  hv
        · replace hv := hv.trans (if_neg hc29)
          refine XS.icmpNo X0.here hx rfl (hb hby d1_29) rfl (flt hc29).2.2.1 ?_
          show Steps p.tables e below (s₁.setTop (mkF m 32 #[.val (.int p1), .unset] [])) _
          refine XS.iloadN X0.here hx rfl (hb hby d1_32) rfl ?_
          show Steps p.tables e below (s₁.setTop (mkF m 33 #[.val (.int p1), .unset] [(.int p1)])) _
          refine XS.bipush X0.here hx rfl (hb hby d1_33) ?_
          show Steps p.tables e below (s₁.setTop (mkF m 35 #[.val (.int p1), .unset] [(.int (65 : Int32)), (.int p1)])) _
          refine XS.isub X0.here hx rfl (hb hby d1_35) rfl ?_
          show Steps p.tables e below (s₁.setTop (mkF m 36 #[.val (.int p1), .unset] [(.int (p1 - (65 : Int32)))])) _
          refine XS.bipush X0.here hx rfl (hb hby d1_36) ?_
          show Steps p.tables e below (s₁.setTop (mkF m 38 #[.val (.int p1), .unset] [(.int (10 : Int32)), (.int (p1 - (65 : Int32)))])) _
          refine XS.iadd X0.here hx rfl (hb hby d1_38) rfl ?_
          show Steps p.tables e below (s₁.setTop (mkF m 39 #[.val (.int p1), .unset] [(.int ((p1 - (65 : Int32)) + (10 : Int32)))])) _
          refine XS.istoreN X0.here hx rfl (hb hby d1_39) rfl (l' := #[.val (.int p1), .val (.int ((p1 - (65 : Int32)) + (10 : Int32)))]) rfl ?_
          show Steps p.tables e below (s₁.setTop (mkF m 40 #[.val (.int p1), .val (.int ((p1 - (65 : Int32)) + (10 : Int32)))] [])) _
          refine XS.goto X0.here hx rfl (pc0 := 40) (pc' := 68) rfl (hb hby d1_40) (by decide) (by decide) ?_
          exact J68 ((p1 - (65 : Int32)) + (10 : Int32)) hv
    have J0 : ∀ (hv : own_f1 p1 = own_f1 p1 ), Steps p.tables e below (s₁.setTop (mkF m 0 #[.val (.int p1), .unset] [])) (s₁.setFrames fs) := by
      intro hv
      show Steps p.tables e below (s₁.setTop (mkF m 0 #[.val (.int p1), .unset] [])) _
      refine XS.iloadN X0.here hx rfl (hb hby d1_0) rfl ?_
      show Steps p.tables e below (s₁.setTop (mkF m 1 #[.val (.int p1), .unset] [(.int p1)])) _
      refine XS.bipush X0.here hx rfl (hb hby d1_1) ?_
      show Steps p.tables e below (s₁.setTop (mkF m 3 #[.val (.int p1), .unset] [(.int (48 : Int32)), (.int p1)])) _
      by_cases hc3 : p1 < (48 : Int32)
      · replace hv := hv.trans (if_pos hc3)
        refine XS.icmpYes X0.here hx rfl (pc0 := 3) (pc' := 20) rfl (hb hby d1_3) rfl (tlt hc3).1 (by decide) (by decide) ?_
        exact J20  hv
      · replace hv := hv.trans (if_neg hc3)
        refine XS.icmpNo X0.here hx rfl (hb hby d1_3) rfl (flt hc3).1 ?_
        show Steps p.tables e below (s₁.setTop (mkF m 6 #[.val (.int p1), .unset] [])) _
        refine XS.iloadN X0.here hx rfl (hb hby d1_6) rfl ?_
        show Steps p.tables e below (s₁.setTop (mkF m 7 #[.val (.int p1), .unset] [(.int p1)])) _
        refine XS.bipush X0.here hx rfl (hb hby d1_7) ?_
        show Steps p.tables e below (s₁.setTop (mkF m 9 #[.val (.int p1), .unset] [(.int (57 : Int32)), (.int p1)])) _
        by_cases hc9 : (57 : Int32) < p1
        · replace hv := hv.trans (if_pos hc9)
          refine XS.icmpYes X0.here hx rfl (pc0 := 9) (pc' := 20) rfl (hb hby d1_9) rfl (tlt hc9).2.2.1 (by decide) (by decide) ?_
          exact J20  hv
        · replace hv := hv.trans (if_neg hc9)
          refine XS.icmpNo X0.here hx rfl (hb hby d1_9) rfl (flt hc9).2.2.1 ?_
          show Steps p.tables e below (s₁.setTop (mkF m 12 #[.val (.int p1), .unset] [])) _
          refine XS.iloadN X0.here hx rfl (hb hby d1_12) rfl ?_
          show Steps p.tables e below (s₁.setTop (mkF m 13 #[.val (.int p1), .unset] [(.int p1)])) _
          refine XS.bipush X0.here hx rfl (hb hby d1_13) ?_
          show Steps p.tables e below (s₁.setTop (mkF m 15 #[.val (.int p1), .unset] [(.int (48 : Int32)), (.int p1)])) _
          refine XS.isub X0.here hx rfl (hb hby d1_15) rfl ?_
          show Steps p.tables e below (s₁.setTop (mkF m 16 #[.val (.int p1), .unset] [(.int (p1 - (48 : Int32)))])) _
          refine XS.istoreN X0.here hx rfl (hb hby d1_16) rfl (l' := #[.val (.int p1), .val (.int (p1 - (48 : Int32)))]) rfl ?_
          show Steps p.tables e below (s₁.setTop (mkF m 17 #[.val (.int p1), .val (.int (p1 - (48 : Int32)))] [])) _
          refine XS.goto X0.here hx rfl (pc0 := 17) (pc' := 68) rfl (hb hby d1_17) (by decide) (by decide) ?_
          exact J68 (p1 - (48 : Int32)) hv
    exact J0 rfl
  · show Q1 p1 h0 n0 _ s₁.heap _
    rw [e0]
    exact ⟨rfl, N0, rfl⟩
def own_t0 : String := match (tables_1[0]? : Option Jvm.Cond) with | some (Jvm.Cond.stringLink _ _ t) => t | _ => ""
def own_cs0 : List Int32 := own_t0.toList.map fun c => Int32.ofNat c.toNat
theorem own_ht0 : (∀ c ∈ own_t0.toList, c.toNat < 256) ∧ own_t0.toList.map (fun c => Value.int (Jvm.Lit.byteI c.toNat.toUInt16)) = (own_cs0.map fun c => c.toInt8.toInt32).map Value.int := ⟨by decide +kernel, by decide +kernel⟩
theorem own_len0 : own_cs0.length = 16 := by decide +kernel
theorem own_hbd0 : ∀ c ∈ own_cs0, ¬ c < 0 ∧ ¬ (65535 : Int32) < c := by decide +kernel
def own_t8 : String := match (tables_1[8]? : Option Jvm.Cond) with | some (Jvm.Cond.stringLink _ _ t) => t | _ => ""
def own_cs8 : List Int32 := own_t8.toList.map fun c => Int32.ofNat c.toNat
theorem own_ht8 : (∀ c ∈ own_t8.toList, c.toNat < 256) ∧ own_t8.toList.map (fun c => Value.int (Jvm.Lit.byteI c.toNat.toUInt16)) = (own_cs8.map fun c => c.toInt8.toInt32).map Value.int := ⟨by decide +kernel, by decide +kernel⟩
theorem own_len8 : own_cs8.length = 16 := by decide +kernel
theorem own_hbd8 : ∀ c ∈ own_cs8, ¬ c < 0 ∧ ¬ (65535 : Int32) < c := by decide +kernel
theorem own_hl0 : (16 : Int32) = Int32.ofNat own_cs0.length ∧ own_cs0.length ≤ 4000 := by rw [own_len0]; exact ⟨rfl, by decide⟩
theorem own_hi0 {i : Nat} (h : i < 16) : i < own_cs0.length := by rw [own_len0]; exact h
theorem own_hc0 : ∀ c ∈ own_cs0, ¬ c < 0 ∧ ¬ (255 : Int32) < c := by decide +kernel
theorem own_hl8 : (16 : Int32) = Int32.ofNat own_cs8.length ∧ own_cs8.length ≤ 4000 := by rw [own_len8]; exact ⟨rfl, by decide⟩
theorem own_hi8 {i : Nat} (h : i < 16) : i < own_cs8.length := by rw [own_len8]; exact h
theorem own_hc8 : ∀ c ∈ own_cs8, ¬ c < 0 ∧ ¬ (255 : Int32) < c := by decide +kernel

theorem own_nat16 (x : Int32) : ∃ i, i < 16 ∧ (x &&& (15 : Int32)) = Int32.ofNat i := by
  have e := Jvm.Kit.i32_mask x 15 (k := 4) (by decide) (by decide)
  refine ⟨(x &&& 15).toInt.toNat, by rw [e]; omega, ?_⟩
  apply Int32.toInt_inj.mp
  have t : ∀ j : Fin 16, (Int32.ofNat j.val).toInt = (j.val : Int) := by decide +kernel
  have q := t ⟨(x &&& 15).toInt.toNat, by rw [e]; omega⟩
  rw [q]
  show (x &&& 15).toInt = (((x &&& 15).toInt.toNat : Nat) : Int)
  omega
def own_hexs : List Int32 := [48, 49, 50, 51, 52, 53, 54, 55, 56, 57, 65, 66, 67, 68, 69, 70, 97, 98, 99, 100, 101, 102]
theorem own_mem {c : Int32} (a b : Int32) (h1 : ¬ c < a) (h2 : ¬ b < c) (ht : ∀ z : Int, a.toInt ≤ z → z ≤ b.toInt → ∃ y ∈ own_hexs, y.toInt = z) : c ∈ own_hexs := by
  rw [Int32.lt_iff_toInt_lt] at h1 h2
  obtain ⟨y, hy, e⟩ := ht c.toInt (by omega) (by omega)
  rw [← Int32.toInt_inj.mp e]; exact hy
theorem own_range (a n : Nat) (A B : Int32) (hA : A.toInt = a) (hB : B.toInt = a + n) (t : ∀ j : Fin (n + 1), ∃ y ∈ own_hexs, y.toInt = ((a + j.val : Nat) : Int)) : ∀ z : Int, A.toInt ≤ z → z ≤ B.toInt → ∃ y ∈ own_hexs, y.toInt = z := by
  intro z h1 h2
  obtain ⟨y, hy, e⟩ := t ⟨(z - a).toNat, by omega⟩
  refine ⟨y, hy, e.trans ?_⟩
  show ((a + (z - a).toNat : Nat) : Int) = z
  omega
theorem own_cases (c : Int32) : own_f1 c = -1 ∨ c ∈ own_hexs := by
  by_cases h1 : c ∈ own_hexs
  · exact Or.inr h1
  · left
    have n1 : ¬ (¬ c < 48 ∧ ¬ (57 : Int32) < c) := fun q => h1 (own_mem 48 57 q.1 q.2 (own_range 48 9 48 57 (by decide) (by decide) (by decide +kernel)))
    have n2 : ¬ (¬ c < 65 ∧ ¬ (70 : Int32) < c) := fun q => h1 (own_mem 65 70 q.1 q.2 (own_range 65 5 65 70 (by decide) (by decide) (by decide +kernel)))
    have n3 : ¬ (¬ c < 97 ∧ ¬ (102 : Int32) < c) := fun q => h1 (own_mem 97 102 q.1 q.2 (own_range 97 5 97 102 (by decide) (by decide) (by decide +kernel)))
    by_cases a1 : c < 48 <;> by_cases a2 : (57 : Int32) < c <;> by_cases b1 : c < 65 <;> by_cases b2 : (70 : Int32) < c <;> by_cases c1 : c < 97 <;> by_cases c2 : (102 : Int32) < c <;> simp_all [own_f1_68, own_f1_66, own_f1_43, own_f1_20, own_f1]
theorem own_tab : ∀ c ∈ own_hexs, ∃ i, i < 16 ∧ own_f1 c = Int32.ofNat i ∧ (c = own_cs0.getD i 0 ∨ c = own_cs8.getD i 0) := by decide +kernel
theorem own_digit (c : Int32) (h : ¬ own_f1 c = -1) : ∃ i, i < 16 ∧ own_f1 c = Int32.ofNat i := by
  obtain ⟨i, hi, e, -⟩ := own_tab c ((own_cases c).resolve_left h); exact ⟨i, hi, e⟩
theorem own_small : ∀ j : Fin 16, ¬ Int32.ofNat j.val < 0 ∧ ¬ (15 : Int32) < Int32.ofNat j.val := by decide +kernel
theorem own_d1 (c : Int32) (h : ¬ own_f1 c = -1) : ¬ own_f1 c < 0 := by obtain ⟨i, hi, e⟩ := own_digit c h; rw [e]; exact (own_small ⟨i, hi⟩).1
theorem own_d2 (c : Int32) (h : ¬ own_f1 c = -1) : ¬ (15 : Int32) < own_f1 c := by obtain ⟨i, hi, e⟩ := own_digit c h; rw [e]; exact (own_small ⟨i, hi⟩).2
theorem own_inj : ∀ i j : Fin 16, Int32.ofNat i.val = Int32.ofNat j.val → i = j := by decide +kernel
theorem own_m1 : ∀ i : Fin 16, ¬ Int32.ofNat i.val = -1 := by decide +kernel
theorem own_up (c : Int32) {i : Nat} (e : own_f1 c = Int32.ofNat i) (hi : i < 16) (h : ¬ c = own_cs0.getD i 0) : c = own_cs8.getD i 0 := by
  obtain ⟨j, hj, e2, h2⟩ := own_tab c ((own_cases c).resolve_left (by rw [e]; exact own_m1 ⟨i, hi⟩))
  obtain rfl : i = j := congrArg Fin.val (own_inj ⟨i, hi⟩ ⟨j, hj⟩ (e.symm.trans e2))
  exact h2.resolve_left h
theorem own_lo {i : Nat} (hi : i < 16) : own_f1 (own_cs0.getD i 0) = Int32.ofNat i := by
  have t : ∀ j : Fin 16, own_f1 (own_cs0.getD j.val 0) = Int32.ofNat j.val := by decide +kernel
  exact t ⟨i, hi⟩
theorem own_hi {i : Nat} (hi : i < 16) : own_f1 (own_cs8.getD i 0) = Int32.ofNat i := by
  have t : ∀ j : Fin 16, own_f1 (own_cs8.getD j.val 0) = Int32.ofNat j.val := by decide +kernel
  exact t ⟨i, hi⟩

def Qrm3 (Z : State) (a1 : Addr) (cz : Int32) (h0 : Heap) (n0 : Nat) (v : Option Value) (h : Heap) (L : List Loc) : Prop := v = some (.int (1 : Int32)) ∧ Fr n0 L ∧ h = h0
theorem d3_0 : decode jdk_42_method_154_code 0 = .ok (.getstatic 38, 3) := by decide +kernel
theorem d3_3 : decode jdk_42_method_154_code 3 = .ok (.ifCond .eq 14, 3) := by decide +kernel
theorem d3_6 : decode jdk_42_method_154_code 6 = .ok (.aload_n 0, 1) := by decide +kernel
theorem d3_7 : decode jdk_42_method_154_code 7 = .ok (.getfield 15, 3) := by decide +kernel
theorem d3_10 : decode jdk_42_method_154_code 10 = .ok (.ifCond .ne 7, 3) := by decide +kernel
theorem d3_13 : decode jdk_42_method_154_code 13 = .ok (.iconst 1, 1) := by decide +kernel
theorem d3_14 : decode jdk_42_method_154_code 14 = .ok (.goto 4, 3) := by decide +kernel
theorem d3_18 : decode jdk_42_method_154_code 18 = .ok (.ireturn, 1) := by decide +kernel
theorem ef_3 (m : MethodId) (x0 : Addr) : entryFrame m #[(.ref x0)] 1 = mkF m 0 #[.val (.ref x0)] [] := by first | (simp [entryFrame, mkF, argsToLocals, Value.category]; done) | rfl
set_option maxRecDepth 65536 in
set_option maxHeartbeats 40000000 in
theorem rm3 (l : Launch) (Z : State) (a0 : Array Value) (hw : ∀ d ∈ tables_1, d.before a0 Z = true) (ws : List Jvm.Cond) (a1 : Addr) (cz : Int32) (h0 : Heap) (n0 : Nat) (Z0 : n0 ≤ h0.size) (ST_COMPACT_STRINGS : Sta Z h0 "java/lang/String" "COMPACT_STRINGS" "Z" (.int cz)) (F_coder_a1 : Fld Z h0 a1 "java/lang/String" "coder" "B" (.int (0 : Int32))) (hCS : ¬ (cz = (0 : Int32))) :
    MetFree l (⟨"java/lang/String", "isLatin1", "()Z"⟩ : MethodName) (head1 (Jvm.Cond.code (⟨"java/lang/String", "isLatin1", "()Z"⟩ : MethodName) jdk_42_method_154_code 1 (some .boolean) :: ws) ({ frames := 0, cells := 0, slots := 0, locals := 0 } : Room)) (fun a U => a = #[(.ref a1)] ∧ Z.Warmed39 U.vm ∧ U.heap = h0) (fun _ _ _ _ _ => True) (fun _ U o U' => ∃ v L, o = .returned v ∧ Qrm3 Z a1 cz h0 n0 v U'.heap L ∧ FrameEnd U o U' L ({ frames := 0, cells := 0, slots := 0, locals := 0 } : Room).cells ({ frames := 0, cells := 0, slots := 0, locals := 0 } : Room).slots) := by
  refine MetFree.of_bodySF (plainFor_of_name pn_1) hisR ?_
  intro p e s m args below meth c s₁ Bd hml0 hP hK
  obtain ⟨rfl, hZ, hh⟩ := hP
  have hx := Bd.exec
  have hby := Bd.bytes
  have hml : c.maxLocals = 1 := hml0
  have hown : s.vm.findClass "java/lang/String" = some m.cls := findClass_of_methodNamed Bd.named
  have hnm := (name_of_methodNamed Bd.named Bd.method).1
  have X0 : Stand p l e ({ frames := 0, cells := 0, slots := 0, locals := 0 } : Room) s m #[(.ref a1)] below meth c s₁ [] 0 0 := Stand.of_body Bd
  have e0 : s₁.heap = h0 := by rw [← hh, Bd.state]; rfl
  have N0 := Fr.nil n0
  have pre0 : ∀ t, Steps p.tables e below (s₁.setTop (mkF m 0 #[.val (.ref a1)] [])) t → Steps p.tables e below (s₁.setTop (entryFrame m #[(.ref a1)] 1)) t := fun t k => castTop (ef_3 m a1) k
  obtain ⟨T1, X1, e1, st1⟩ := getS2 X0 hx hZ hown (host := "") (Or.inl (hw _ (List.mem_of_getElem? (i := 24) rfl))) Via.refl e0 ST_COMPACT_STRINGS (g := (mkF m 0 #[.val (.ref a1)] [])) rfl (hb hby d3_0)
  have pre1 : ∀ t, Steps p.tables e below (T1.setTop (mkF m 3 #[.val (.ref a1)] [(.int cz)])) t → Steps p.tables e below (s₁.setTop (entryFrame m #[(.ref a1)] 1)) t := fun t kt => pre0 t (st1 _ kt)
  have pre2 : ∀ t, Steps p.tables e below (T1.setTop (mkF m 7 #[.val (.ref a1)] [(.ref a1)])) t → Steps p.tables e below (s₁.setTop (entryFrame m #[(.ref a1)] 1)) t := by
    intro t kt
    refine pre1 t ?_
    show Steps p.tables e below (T1.setTop (mkF m 3 #[.val (.ref a1)] [(.int cz)])) _
    refine XS.ifNo X1.here hx rfl (hb hby d3_3) rfl ((if0 _ _).trans (feq hCS).1) ?_
    show Steps p.tables e below (T1.setTop (mkF m 6 #[.val (.ref a1)] [])) _
    refine XS.aloadN X1.here hx rfl (hb hby d3_6) rfl rfl ?_
    exact kt
  obtain ⟨T3, X3, e3, st3⟩ := getF X1 hx hZ hown (host := "") (Or.inl (hw _ (List.mem_of_getElem? (i := 25) rfl))) Via.refl e1 F_coder_a1 (g := (mkF m 7 #[.val (.ref a1)] [(.ref a1)])) rfl rfl (hb hby d3_7)
  have pre3 : ∀ t, Steps p.tables e below (T3.setTop (mkF m 10 #[.val (.ref a1)] [(.int (0 : Int32))])) t → Steps p.tables e below (s₁.setTop (entryFrame m #[(.ref a1)] 1)) t := fun t kt => pre2 t (st3 _ kt)
  have pre4 : ∀ t, Steps p.tables e below (T3.setTop (mkF m 18 #[.val (.ref a1)] [(.int (1 : Int32))])) t → Steps p.tables e below (s₁.setTop (entryFrame m #[(.ref a1)] 1)) t := by
    intro t kt
    refine pre3 t ?_
    show Steps p.tables e below (T3.setTop (mkF m 10 #[.val (.ref a1)] [(.int (0 : Int32))])) _
    refine XS.ifNo X3.here hx rfl (hb hby d3_10) rfl ((if0 _ _).trans (teq (by decide)).2) ?_
    show Steps p.tables e below (T3.setTop (mkF m 13 #[.val (.ref a1)] [])) _
    refine XS.iconst X3.here hx rfl (hb hby d3_13) ?_
    show Steps p.tables e below (T3.setTop (mkF m 14 #[.val (.ref a1)] [(.int (1 : Int32))])) _
    refine XS.goto X3.here hx rfl (pc0 := 14) (pc' := 18) rfl (hb hby d3_14) (by decide) (by decide) ?_
    exact kt
  obtain ⟨fs, hr, hrun, hended, hW, hsame⟩ := X3.leave (v := some (.int (1 : Int32))) (fun h => by rw [Bd.returns] at h; cases h)
  refine ⟨_, _, pre4 _ ?_, hrun, hended, _, _, rfl, ?_, ⟨_, rfl⟩, hW, hsame.mono (by decide) (by decide)⟩
  · show Steps p.tables e below (T3.setTop (mkF m 18 #[.val (.ref a1)] [(.int (1 : Int32))])) _
    exact retN X3 hx (t := .boolean) Bd.returns (by simp) (hb hby d3_18) hr
  · show Qrm3 Z a1 cz h0 n0 _ T3.heap _
    rw [e3]
    exact ⟨rfl, N0, rfl⟩
def Qrm6 (Z : State) (p1 : Int32) (p2 : Int32) (u3 : Value) (h0 : Heap) (n0 : Nat) (v : Option Value) (h : Heap) (L : List Loc) : Prop := v = some (.int p1) ∧ Fr n0 L ∧ h = h0
theorem d6_0 : decode jdk_41_method_11_code 0 = .ok (.iload_n 0, 1) := by decide +kernel
theorem d6_1 : decode jdk_41_method_11_code 1 = .ok (.ifCond .lt 8, 3) := by decide +kernel
theorem d6_4 : decode jdk_41_method_11_code 4 = .ok (.iload_n 0, 1) := by decide +kernel
theorem d6_5 : decode jdk_41_method_11_code 5 = .ok (.iload_n 1, 1) := by decide +kernel
theorem d6_6 : decode jdk_41_method_11_code 6 = .ok (.if_icmp .lt 10, 3) := by decide +kernel
theorem d6_16 : decode jdk_41_method_11_code 16 = .ok (.iload_n 0, 1) := by decide +kernel
theorem d6_17 : decode jdk_41_method_11_code 17 = .ok (.ireturn, 1) := by decide +kernel
theorem ef_6 (m : MethodId) (x0 : Int32) (x1 : Int32) {x2 : Value} (hx2 : x2.isRef = true) : entryFrame m #[(.int x0), (.int x1), x2] 3 = mkF m 0 #[.val (.int x0), .val (.int x1), .val x2] [] := by rcases ref_cases hx2 with rfl | ⟨_, rfl⟩ <;> first | (simp [entryFrame, mkF, argsToLocals, Value.category]; done) | rfl
set_option maxRecDepth 65536 in
set_option maxHeartbeats 40000000 in
theorem rm6 (l : Launch) (Z : State) (a0 : Array Value) (hw : ∀ d ∈ tables_1, d.before a0 Z = true) (ws : List Jvm.Cond) (p1 : Int32) (p2 : Int32) (u3 : Value) (h0 : Heap) (n0 : Nat) (Z0 : n0 ≤ h0.size) (hu3 : u3.isRef = true) (h1 : ¬ p1 < (0 : Int32)) (h2 : p1 < p2) :
    MetFree l (⟨"jdk/internal/util/Preconditions", "checkIndex", "(IILjava/util/function/BiFunction;)I"⟩ : MethodName) (head1 (Jvm.Cond.code (⟨"jdk/internal/util/Preconditions", "checkIndex", "(IILjava/util/function/BiFunction;)I"⟩ : MethodName) jdk_41_method_11_code 3 (some .int) :: ws) ({ frames := 0, cells := 0, slots := 0, locals := 0 } : Room)) (fun a U => a = #[(.int p1), (.int p2), u3] ∧ Z.Warmed39 U.vm ∧ U.heap = h0) (fun _ _ _ _ _ => True) (fun _ U o U' => ∃ v L, o = .returned v ∧ Qrm6 Z p1 p2 u3 h0 n0 v U'.heap L ∧ FrameEnd U o U' L ({ frames := 0, cells := 0, slots := 0, locals := 0 } : Room).cells ({ frames := 0, cells := 0, slots := 0, locals := 0 } : Room).slots) := by
  refine MetFree.of_bodySF (plainFor_of_name pn_2) hisR ?_
  intro p e s m args below meth c s₁ Bd hml0 hP hK
  obtain ⟨rfl, hZ, hh⟩ := hP
  have hx := Bd.exec
  have hby := Bd.bytes
  have hml : c.maxLocals = 3 := hml0
  have hown : s.vm.findClass "jdk/internal/util/Preconditions" = some m.cls := findClass_of_methodNamed Bd.named
  have hnm := (name_of_methodNamed Bd.named Bd.method).1
  have X0 : Stand p l e ({ frames := 0, cells := 0, slots := 0, locals := 0 } : Room) s m #[(.int p1), (.int p2), u3] below meth c s₁ [] 0 0 := Stand.of_body Bd
  have e0 : s₁.heap = h0 := by rw [← hh, Bd.state]; rfl
  have N0 := Fr.nil n0
  have pre0 : ∀ t, Steps p.tables e below (s₁.setTop (mkF m 0 #[.val (.int p1), .val (.int p2), .val u3] [])) t → Steps p.tables e below (s₁.setTop (entryFrame m #[(.int p1), (.int p2), u3] 3)) t := fun t k => castTop (ef_6 m p1 p2 hu3) k
  have pre1 : ∀ t, Steps p.tables e below (s₁.setTop (mkF m 17 #[.val (.int p1), .val (.int p2), .val u3] [(.int p1)])) t → Steps p.tables e below (s₁.setTop (entryFrame m #[(.int p1), (.int p2), u3] 3)) t := by
    intro t kt
    refine pre0 t ?_
    show Steps p.tables e below (s₁.setTop (mkF m 0 #[.val (.int p1), .val (.int p2), .val u3] [])) _
    refine XS.iloadN X0.here hx rfl (hb hby d6_0) rfl ?_
    show Steps p.tables e below (s₁.setTop (mkF m 1 #[.val (.int p1), .val (.int p2), .val u3] [(.int p1)])) _
    refine XS.ifNo X0.here hx rfl (hb hby d6_1) rfl ((if0 _ _).trans (flt h1).1) ?_
    show Steps p.tables e below (s₁.setTop (mkF m 4 #[.val (.int p1), .val (.int p2), .val u3] [])) _
    refine XS.iloadN X0.here hx rfl (hb hby d6_4) rfl ?_
    show Steps p.tables e below (s₁.setTop (mkF m 5 #[.val (.int p1), .val (.int p2), .val u3] [(.int p1)])) _
    refine XS.iloadN X0.here hx rfl (hb hby d6_5) rfl ?_
    show Steps p.tables e below (s₁.setTop (mkF m 6 #[.val (.int p1), .val (.int p2), .val u3] [(.int p2), (.int p1)])) _
    refine XS.icmpYes X0.here hx rfl (pc0 := 6) (pc' := 16) rfl (hb hby d6_6) rfl (tlt h2).1 (by decide) (by decide) ?_
    show Steps p.tables e below (s₁.setTop (mkF m 16 #[.val (.int p1), .val (.int p2), .val u3] [])) _
    refine XS.iloadN X0.here hx rfl (hb hby d6_16) rfl ?_
    exact kt
  obtain ⟨fs, hr, hrun, hended, hW, hsame⟩ := X0.leave (v := some (.int p1)) (fun h => by rw [Bd.returns] at h; cases h)
  refine ⟨_, _, pre1 _ ?_, hrun, hended, _, _, rfl, ?_, ⟨_, rfl⟩, hW, hsame.mono (by decide) (by decide)⟩
  · show Steps p.tables e below (s₁.setTop (mkF m 17 #[.val (.int p1), .val (.int p2), .val u3] [(.int p1)])) _
    exact retI X0 hx Bd.returns (hb hby d6_17) hr
  · show Qrm6 Z p1 p2 u3 h0 n0 _ s₁.heap _
    rw [e0]
    exact ⟨rfl, N0, rfl⟩
def Qrm5 (Z : State) (p1 : Int32) (p2 : Int32) (fm : Value) (h0 : Heap) (n0 : Nat) (v : Option Value) (h : Heap) (L : List Loc) : Prop := v = none ∧ Fr n0 L ∧ h = h0
theorem d5_0 : decode jdk_42_method_155_code 0 = .ok (.iload_n 0, 1) := by decide +kernel
theorem d5_1 : decode jdk_42_method_155_code 1 = .ok (.iload_n 1, 1) := by decide +kernel
theorem d5_2 : decode jdk_42_method_155_code 2 = .ok (.getstatic 1053, 3) := by decide +kernel
theorem d5_5 : decode jdk_42_method_155_code 5 = .ok (.invokestatic 1059, 3) := by decide +kernel
theorem d5_8 : decode jdk_42_method_155_code 8 = .ok (.pop, 1) := by decide +kernel
theorem d5_9 : decode jdk_42_method_155_code 9 = .ok (.return_, 1) := by decide +kernel
theorem ef_5 (m : MethodId) (x0 : Int32) (x1 : Int32) : entryFrame m #[(.int x0), (.int x1)] 2 = mkF m 0 #[.val (.int x0), .val (.int x1)] [] := by first | (simp [entryFrame, mkF, argsToLocals, Value.category]; done) | rfl
set_option maxRecDepth 65536 in
set_option maxHeartbeats 40000000 in
theorem rm5 (l : Launch) (Z : State) (a0 : Array Value) (hw : ∀ d ∈ tables_1, d.before a0 Z = true) (ws : List Jvm.Cond) (p1 : Int32) (p2 : Int32) (fm : Value) (h0 : Heap) (n0 : Nat) (Z0 : n0 ≤ h0.size) (ST_SIOOBE_FORMATTER : Sta Z h0 "jdk/internal/util/Preconditions" "SIOOBE_FORMATTER" "Ljava/util/function/BiFunction;" fm) (hFM : fm.isRef = true) (h1 : ¬ p1 < (0 : Int32)) (h2 : p1 < p2) :
    MetFree l (⟨"java/lang/String", "checkIndex", "(II)V"⟩ : MethodName) (head1 (Jvm.Cond.code (⟨"java/lang/String", "checkIndex", "(II)V"⟩ : MethodName) jdk_42_method_155_code 2 none :: ws) ({ frames := 1, cells := 0, slots := 0, locals := 14 } : Room)) (fun a U => a = #[(.int p1), (.int p2)] ∧ Z.Warmed39 U.vm ∧ U.heap = h0) (fun _ _ _ _ _ => True) (fun _ U o U' => ∃ v L, o = .returned v ∧ Qrm5 Z p1 p2 fm h0 n0 v U'.heap L ∧ FrameEnd U o U' L ({ frames := 1, cells := 0, slots := 0, locals := 14 } : Room).cells ({ frames := 1, cells := 0, slots := 0, locals := 14 } : Room).slots) := by
  refine MetFree.of_bodySF (plainFor_of_name pn_1) hisR ?_
  intro p e s m args below meth c s₁ Bd hml0 hP hK
  obtain ⟨rfl, hZ, hh⟩ := hP
  have hx := Bd.exec
  have hby := Bd.bytes
  have hml : c.maxLocals = 2 := hml0
  have hown : s.vm.findClass "java/lang/String" = some m.cls := findClass_of_methodNamed Bd.named
  have hnm := (name_of_methodNamed Bd.named Bd.method).1
  have X0 : Stand p l e ({ frames := 1, cells := 0, slots := 0, locals := 14 } : Room) s m #[(.int p1), (.int p2)] below meth c s₁ [] 0 0 := Stand.of_body Bd
  have e0 : s₁.heap = h0 := by rw [← hh, Bd.state]; rfl
  have N0 := Fr.nil n0
  have pre0 : ∀ t, Steps p.tables e below (s₁.setTop (mkF m 0 #[.val (.int p1), .val (.int p2)] [])) t → Steps p.tables e below (s₁.setTop (entryFrame m #[(.int p1), (.int p2)] 2)) t := fun t k => castTop (ef_5 m p1 p2) k
  have pre1 : ∀ t, Steps p.tables e below (s₁.setTop (mkF m 2 #[.val (.int p1), .val (.int p2)] [(.int p2), (.int p1)])) t → Steps p.tables e below (s₁.setTop (entryFrame m #[(.int p1), (.int p2)] 2)) t := by
    intro t kt
    refine pre0 t ?_
    show Steps p.tables e below (s₁.setTop (mkF m 0 #[.val (.int p1), .val (.int p2)] [])) _
    refine XS.iloadN X0.here hx rfl (hb hby d5_0) rfl ?_
    show Steps p.tables e below (s₁.setTop (mkF m 1 #[.val (.int p1), .val (.int p2)] [(.int p1)])) _
    refine XS.iloadN X0.here hx rfl (hb hby d5_1) rfl ?_
    exact kt
  obtain ⟨T2, X2, e2, st2⟩ := getS2 X0 hx hZ hown (host := "") (Or.inl (hw _ (List.mem_of_getElem? (i := 34) rfl))) Via.refl e0 ST_SIOOBE_FORMATTER (g := (mkF m 2 #[.val (.int p1), .val (.int p2)] [(.int p2), (.int p1)])) rfl (hb hby d5_2)
  have pre2 : ∀ t, Steps p.tables e below (T2.setTop (mkF m 5 #[.val (.int p1), .val (.int p2)] [fm, (.int p2), (.int p1)])) t → Steps p.tables e below (s₁.setTop (entryFrame m #[(.int p1), (.int p2)] 2)) t := fun t kt => pre1 t (st2 _ kt)
  obtain ⟨_, _, ⟨T3, L3, k3, n3⟩, -, X3, ⟨Lc3, hQ3, l3, y3, z3⟩, st3⟩ := Jvm.LawKit.callS X2 hx (y := (⟨"jdk/internal/util/Preconditions", "checkIndex", "(IILjava/util/function/BiFunction;)I"⟩ : MethodName)) hown (mvT hZ (hw _ (List.mem_of_getElem? (i := 36) rfl))) (mvT hZ (hw _ (List.mem_of_getElem? (i := 37) rfl))) (mvT hZ (hw _ (List.mem_of_getElem? (i := 35) rfl))) (mvT hZ (hw _ (List.mem_of_getElem? (i := 38) rfl))) (by decide) (backOf (W := 0) (rm6 l Z a0 hw [] p1 p2 fm h0 n0 Z0 (hFM) (h1) (h2)) hZ (hw _ (List.mem_of_getElem? (i := 38) rfl)) (hw _ (List.mem_of_getElem? (i := 35) rfl)) (by decide) (by decide)) (g := (mkF m 5 #[.val (.int p1), .val (.int p2)] [fm, (.int p2), (.int p1)])) rfl (by rw [hml]; rfl) (argsL := [(.int p1), (.int p2), fm]) (rest := []) (lenOf pd_0 rfl) rfl (by show 2 * 0 + _ ≤ _; exact Nat.le_of_eq rfl) (hb hby d5_5) (fun _ _ => ⟨rfl, e2, (by decide : 0 + 0 ≤ _), (by decide : 0 + 0 ≤ _)⟩)
  dsimp only [Pt.U, Pt.locs, Pt.cells, Pt.slots] at X3 l3 y3 z3 st3 hQ3
  subst l3 y3 z3
  obtain ⟨rfl, N3q, e3⟩ := hQ3
  have N3 := Fr.app N0 N3q
  have pre3 : ∀ t, Steps p.tables e below (T3.setTop (mkF m 8 #[.val (.int p1), .val (.int p2)] [(.int p1)])) t → Steps p.tables e below (s₁.setTop (entryFrame m #[(.int p1), (.int p2)] 2)) t := fun t kt => pre2 t (st3 _ kt)
  have pre4 : ∀ t, Steps p.tables e below (T3.setTop (mkF m 9 #[.val (.int p1), .val (.int p2)] [])) t → Steps p.tables e below (s₁.setTop (entryFrame m #[(.int p1), (.int p2)] 2)) t := by
    intro t kt
    refine pre3 t ?_
    show Steps p.tables e below (T3.setTop (mkF m 8 #[.val (.int p1), .val (.int p2)] [(.int p1)])) _
    refine XS.pop X3.here hx rfl (hb hby d5_8) rfl rfl ?_
    exact kt
  obtain ⟨fs, hr, hrun, hended, hW, hsame⟩ := X3.leave (v := none) (fun _ => rfl)
  refine ⟨_, _, pre4 _ ?_, hrun, hended, _, _, rfl, ?_, ⟨_, rfl⟩, hW, hsame.mono (by decide) (by decide)⟩
  · show Steps p.tables e below (T3.setTop (mkF m 9 #[.val (.int p1), .val (.int p2)] [])) _
    exact X3.returnOut hx Bd.returns (hb hby d5_9) hr
  · show Qrm5 Z p1 p2 fm h0 n0 _ T3.heap _
    rw [e3]
    exact ⟨rfl, N3, rfl⟩
def Qrm4 (Z : State) (a1 : Addr) (p2 : Int32) (kd : ClassId) (cs : List Int32) (ln : Int32) (i : Nat) (fm : Value) (h0 : Heap) (n0 : Nat) (v : Option Value) (h : Heap) (L : List Loc) : Prop := v = some (.int (cs.getD i 0)) ∧ Fr n0 L ∧ h = h0
theorem d4_0 : decode jdk_43_method_2_code 0 = .ok (.iload_n 1, 1) := by decide +kernel
theorem d4_1 : decode jdk_43_method_2_code 1 = .ok (.aload_n 0, 1) := by decide +kernel
theorem d4_2 : decode jdk_43_method_2_code 2 = .ok (.arraylength, 1) := by decide +kernel
theorem d4_3 : decode jdk_43_method_2_code 3 = .ok (.invokestatic 9, 3) := by decide +kernel
theorem d4_6 : decode jdk_43_method_2_code 6 = .ok (.aload_n 0, 1) := by decide +kernel
theorem d4_7 : decode jdk_43_method_2_code 7 = .ok (.iload_n 1, 1) := by decide +kernel
theorem d4_8 : decode jdk_43_method_2_code 8 = .ok (.baload, 1) := by decide +kernel
theorem d4_9 : decode jdk_43_method_2_code 9 = .ok (.sipush 255, 3) := by decide +kernel
theorem d4_12 : decode jdk_43_method_2_code 12 = .ok (.iand, 1) := by decide +kernel
theorem d4_13 : decode jdk_43_method_2_code 13 = .ok (.i2c, 1) := by decide +kernel
theorem d4_14 : decode jdk_43_method_2_code 14 = .ok (.ireturn, 1) := by decide +kernel
theorem ef_4 (m : MethodId) (x0 : Addr) (x1 : Int32) : entryFrame m #[(.ref x0), (.int x1)] 2 = mkF m 0 #[.val (.ref x0), .val (.int x1)] [] := by first | (simp [entryFrame, mkF, argsToLocals, Value.category]; done) | rfl
set_option maxRecDepth 65536 in
set_option maxHeartbeats 40000000 in
theorem rm4 (l : Launch) (Z : State) (a0 : Array Value) (hw : ∀ d ∈ tables_1, d.before a0 Z = true) (ws : List Jvm.Cond) (a1 : Addr) (p2 : Int32) (kd : ClassId) (cs : List Int32) (ln : Int32) (i : Nat) (fm : Value) (h0 : Heap) (n0 : Nat) (Z0 : n0 ≤ h0.size) (V_a1 : Arv Z h0 a1 kd .byte ln ((cs.map fun c => c.toInt8.toInt32).map Value.int) (.int (0 : Int32))) (ST_SIOOBE_FORMATTER : Sta Z h0 "jdk/internal/util/Preconditions" "SIOOBE_FORMATTER" "Ljava/util/function/BiFunction;" fm) (hFM : fm.isRef = true) (hl : ln = Int32.ofNat cs.length ∧ cs.length ≤ 4000) (hi : i < cs.length) (hp : p2 = Int32.ofNat i) (hcs : ∀ c ∈ cs, ¬ c < 0 ∧ ¬ (255 : Int32) < c) :
    MetFree l (⟨"java/lang/StringLatin1", "charAt", "([BI)C"⟩ : MethodName) (head1 (Jvm.Cond.code (⟨"java/lang/StringLatin1", "charAt", "([BI)C"⟩ : MethodName) jdk_43_method_2_code 2 (some .char) :: ws) ({ frames := 2, cells := 0, slots := 0, locals := 27 } : Room)) (fun a U => a = #[(.ref a1), (.int p2)] ∧ Z.Warmed39 U.vm ∧ U.heap = h0) (fun _ _ _ _ _ => True) (fun _ U o U' => ∃ v L, o = .returned v ∧ Qrm4 Z a1 p2 kd cs ln i fm h0 n0 v U'.heap L ∧ FrameEnd U o U' L ({ frames := 2, cells := 0, slots := 0, locals := 27 } : Room).cells ({ frames := 2, cells := 0, slots := 0, locals := 27 } : Room).slots) := by
  refine MetFree.of_bodySF (plainFor_of_name pn_3) hisR ?_
  intro p e s m args below meth c s₁ Bd hml0 hP hK
  obtain ⟨rfl, hZ, hh⟩ := hP
  have hx := Bd.exec
  have hby := Bd.bytes
  have hml : c.maxLocals = 2 := hml0
  have hown : s.vm.findClass "java/lang/StringLatin1" = some m.cls := findClass_of_methodNamed Bd.named
  have hnm := (name_of_methodNamed Bd.named Bd.method).1
  have X0 : Stand p l e ({ frames := 2, cells := 0, slots := 0, locals := 27 } : Room) s m #[(.ref a1), (.int p2)] below meth c s₁ [] 0 0 := Stand.of_body Bd
  have e0 : s₁.heap = h0 := by rw [← hh, Bd.state]; rfl
  have N0 := Fr.nil n0
  have pre0 : ∀ t, Steps p.tables e below (s₁.setTop (mkF m 0 #[.val (.ref a1), .val (.int p2)] [])) t → Steps p.tables e below (s₁.setTop (entryFrame m #[(.ref a1), (.int p2)] 2)) t := fun t k => castTop (ef_4 m a1 p2) k
  subst hp
  have pre2 : ∀ t, Steps p.tables e below (s₁.setTop (mkF m 3 #[.val (.ref a1), .val (.int (Int32.ofNat i))] [(.int ln), (.int (Int32.ofNat i))])) t → Steps p.tables e below (s₁.setTop (entryFrame m #[(.ref a1), (.int (Int32.ofNat i))] 2)) t := by
    intro t kt
    refine pre0 t ?_
    show Steps p.tables e below (s₁.setTop (mkF m 0 #[.val (.ref a1), .val (.int (Int32.ofNat i))] [])) _
    refine XS.iloadN X0.here hx rfl (hb hby d4_0) rfl ?_
    show Steps p.tables e below (s₁.setTop (mkF m 1 #[.val (.ref a1), .val (.int (Int32.ofNat i))] [(.int (Int32.ofNat i))])) _
    refine XS.aloadN X0.here hx rfl (hb hby d4_1) rfl rfl ?_
    show Steps p.tables e below (s₁.setTop (mkF m 2 #[.val (.ref a1), .val (.int (Int32.ofNat i))] [(.ref a1), (.int (Int32.ofNat i))])) _
    obtain ⟨cl1, Ar1, -, S1, M1, -, -⟩ := (id V_a1)
    refine X0.arraylength hx (by rw [e0]; exact Ar1.1) (State.isArrayOf_alike hZ.alike Ar1.2.1) (g := (mkF m 2 #[.val (.ref a1), .val (.int (Int32.ofNat i))] [(.ref a1), (.int (Int32.ofNat i))])) rfl rfl (hb hby d4_2) _ ?_
    rw [len_of S1 M1]
    exact kt
  obtain ⟨_, _, ⟨T3, L3, k3, n3⟩, -, X3, ⟨Lc3, hQ3, l3, y3, z3⟩, st3⟩ := Jvm.LawKit.callS X0 hx (y := (⟨"java/lang/String", "checkIndex", "(II)V"⟩ : MethodName)) hown (mvT hZ (hw _ (List.mem_of_getElem? (i := 31) rfl))) (mvT hZ (hw _ (List.mem_of_getElem? (i := 32) rfl))) (mvT hZ (hw _ (List.mem_of_getElem? (i := 1) rfl))) (mvT hZ (hw _ (List.mem_of_getElem? (i := 33) rfl))) (by decide) (backOf (W := 0) (rm5 l Z a0 hw [] (Int32.ofNat i) ln fm h0 n0 Z0 ST_SIOOBE_FORMATTER (hFM) ((own_ix hl hi).1) ((own_ix hl hi).2)) hZ (hw _ (List.mem_of_getElem? (i := 33) rfl)) (hw _ (List.mem_of_getElem? (i := 1) rfl)) (by decide) (by decide)) (g := (mkF m 3 #[.val (.ref a1), .val (.int (Int32.ofNat i))] [(.int ln), (.int (Int32.ofNat i))])) rfl (by rw [hml]; rfl) (argsL := [(.int (Int32.ofNat i)), (.int ln)]) (rest := []) (lenOf pd_1 rfl) rfl (by show 2 * 0 + _ ≤ _; exact Nat.le_of_eq rfl) (hb hby d4_3) (fun _ _ => ⟨rfl, e0, (by decide : 0 + 0 ≤ _), (by decide : 0 + 0 ≤ _)⟩)
  dsimp only [Pt.U, Pt.locs, Pt.cells, Pt.slots] at X3 l3 y3 z3 st3 hQ3
  subst l3 y3 z3
  obtain ⟨rfl, N3q, e3⟩ := hQ3
  have N3 := Fr.app N0 N3q
  have pre3 : ∀ t, Steps p.tables e below (T3.setTop (mkF m 6 #[.val (.ref a1), .val (.int (Int32.ofNat i))] [])) t → Steps p.tables e below (s₁.setTop (entryFrame m #[(.ref a1), (.int (Int32.ofNat i))] 2)) t := fun t kt => pre2 t (st3 _ kt)
  have pre5 : ∀ t, Steps p.tables e below (T3.setTop (mkF m 14 #[.val (.ref a1), .val (.int (Int32.ofNat i))] [(.int (((cs.getD i 0).toInt8.toInt32 &&& (255 : Int32)).toUInt32.toUInt16.toUInt32.toInt32))])) t → Steps p.tables e below (s₁.setTop (entryFrame m #[(.ref a1), (.int (Int32.ofNat i))] 2)) t := by
    intro t kt
    refine pre3 t ?_
    show Steps p.tables e below (T3.setTop (mkF m 6 #[.val (.ref a1), .val (.int (Int32.ofNat i))] [])) _
    refine XS.aloadN X3.here hx rfl (hb hby d4_6) rfl rfl ?_
    show Steps p.tables e below (T3.setTop (mkF m 7 #[.val (.ref a1), .val (.int (Int32.ofNat i))] [(.ref a1)])) _
    refine XS.iloadN X3.here hx rfl (hb hby d4_7) rfl ?_
    show Steps p.tables e below (T3.setTop (mkF m 8 #[.val (.ref a1), .val (.int (Int32.ofNat i))] [(.int (Int32.ofNat i)), (.ref a1)])) _
    obtain ⟨cl4, Ar4, -, S4, M4, H4, -⟩ := (id V_a1)
    have hin4 : ¬ ((Int32.ofNat i) < 0 ∨ cl4.slots.size ≤ ((Int32.ofNat i)).toNatClampNeg) := inb_of S4 (own_ix hl hi)
    refine X3.baloadBytes hx (j := (Int32.ofNat i)) (v := (.int (cs.getD i 0).toInt8.toInt32)) (by rw [e3]; exact Ar4.1) (State.isArrayOf_alike hZ.alike Ar4.2.1) Ar4.2.2 hin4 (H4.at hin4 (own_bat hl hi)) (g := (mkF m 8 #[.val (.ref a1), .val (.int (Int32.ofNat i))] [(.int (Int32.ofNat i)), (.ref a1)])) rfl rfl (hb hby d4_8) _ ?_
    show Steps p.tables e below (T3.setTop (mkF m 9 #[.val (.ref a1), .val (.int (Int32.ofNat i))] [(.int (cs.getD i 0).toInt8.toInt32)])) _
    refine XS.sipush X3.here hx rfl (hb hby d4_9) ?_
    show Steps p.tables e below (T3.setTop (mkF m 12 #[.val (.ref a1), .val (.int (Int32.ofNat i))] [(.int (255 : Int32)), (.int (cs.getD i 0).toInt8.toInt32)])) _
    refine XS.iand X3.here hx rfl (hb hby d4_12) rfl ?_
    show Steps p.tables e below (T3.setTop (mkF m 13 #[.val (.ref a1), .val (.int (Int32.ofNat i))] [(.int ((cs.getD i 0).toInt8.toInt32 &&& (255 : Int32)))])) _
    refine XS.i2c X3.here hx rfl (hb hby d4_13) rfl ?_
    exact kt
  have hres : (nar .char (((cs.getD i 0).toInt8.toInt32 &&& (255 : Int32)).toUInt32.toUInt16.toUInt32.toInt32)) = (cs.getD i 0) := own_b2c hcs hi
  obtain ⟨fs, hr, hrun, hended, hW, hsame⟩ := X3.leave (v := some (.int (nar .char (((cs.getD i 0).toInt8.toInt32 &&& (255 : Int32)).toUInt32.toUInt16.toUInt32.toInt32)))) (fun h => by rw [Bd.returns] at h; cases h)
  refine ⟨_, _, pre5 _ ?_, hrun, hended, _, _, rfl, ?_, ⟨_, rfl⟩, hW, hsame.mono (by decide) (by decide)⟩
  · show Steps p.tables e below (T3.setTop (mkF m 14 #[.val (.ref a1), .val (.int (Int32.ofNat i))] [(.int (((cs.getD i 0).toInt8.toInt32 &&& (255 : Int32)).toUInt32.toUInt16.toUInt32.toInt32))])) _
    exact retN X3 hx (t := .char) Bd.returns (by simp) (hb hby d4_14) hr
  · show Qrm4 Z a1 (Int32.ofNat i) kd cs ln i fm h0 n0 _ T3.heap _
    rw [e3]
    exact ⟨congrArg some (congrArg Value.int hres), N3, rfl⟩
def Qrm2 (Z : State) (a1 : Addr) (p2 : Int32) (tb : Addr) (kd : ClassId) (cs : List Int32) (ln : Int32) (i : Nat) (cz : Int32) (fm : Value) (h0 : Heap) (n0 : Nat) (v : Option Value) (h : Heap) (L : List Loc) : Prop := v = some (.int (cs.getD i 0)) ∧ Fr n0 L ∧ h = h0
theorem d2_0 : decode jdk_42_method_56_code 0 = .ok (.aload_n 0, 1) := by decide +kernel
theorem d2_1 : decode jdk_42_method_56_code 1 = .ok (.invokevirtual 492, 3) := by decide +kernel
theorem d2_4 : decode jdk_42_method_56_code 4 = .ok (.ifCond .eq 12, 3) := by decide +kernel
theorem d2_7 : decode jdk_42_method_56_code 7 = .ok (.aload_n 0, 1) := by decide +kernel
theorem d2_8 : decode jdk_42_method_56_code 8 = .ok (.getfield 9, 3) := by decide +kernel
theorem d2_11 : decode jdk_42_method_56_code 11 = .ok (.iload_n 1, 1) := by decide +kernel
theorem d2_12 : decode jdk_42_method_56_code 12 = .ok (.invokestatic 495, 3) := by decide +kernel
theorem d2_15 : decode jdk_42_method_56_code 15 = .ok (.ireturn, 1) := by decide +kernel
theorem ef_2 (m : MethodId) (x0 : Addr) (x1 : Int32) : entryFrame m #[(.ref x0), (.int x1)] 2 = mkF m 0 #[.val (.ref x0), .val (.int x1)] [] := by first | (simp [entryFrame, mkF, argsToLocals, Value.category]; done) | rfl
set_option maxRecDepth 65536 in
set_option maxHeartbeats 40000000 in
theorem rm2 (l : Launch) (Z : State) (a0 : Array Value) (hw : ∀ d ∈ tables_1, d.before a0 Z = true) (ws : List Jvm.Cond) (a1 : Addr) (p2 : Int32) (tb : Addr) (kd : ClassId) (cs : List Int32) (ln : Int32) (i : Nat) (cz : Int32) (fm : Value) (h0 : Heap) (n0 : Nat) (Z0 : n0 ≤ h0.size) (E_a1 : Exa Z h0 a1 "java/lang/String") (F_value_a1 : Fld Z h0 a1 "java/lang/String" "value" "[B" (.ref tb)) (F_coder_a1 : Fld Z h0 a1 "java/lang/String" "coder" "B" (.int (0 : Int32))) (V_tb : Arv Z h0 tb kd .byte ln ((cs.map fun c => c.toInt8.toInt32).map Value.int) (.int (0 : Int32))) (ST_COMPACT_STRINGS : Sta Z h0 "java/lang/String" "COMPACT_STRINGS" "Z" (.int cz)) (ST_SIOOBE_FORMATTER : Sta Z h0 "jdk/internal/util/Preconditions" "SIOOBE_FORMATTER" "Ljava/util/function/BiFunction;" fm) (hCS : ¬ (cz = (0 : Int32))) (hFM : fm.isRef = true) (hl : ln = Int32.ofNat cs.length ∧ cs.length ≤ 4000) (hi : i < cs.length) (hp : p2 = Int32.ofNat i) (hcs : ∀ c ∈ cs, ¬ c < 0 ∧ ¬ (255 : Int32) < c) :
    MetFree l (⟨"java/lang/String", "charAt", "(I)C"⟩ : MethodName) (head1 (Jvm.Cond.code (⟨"java/lang/String", "charAt", "(I)C"⟩ : MethodName) jdk_42_method_56_code 2 (some .char) :: ws) ({ frames := 3, cells := 0, slots := 0, locals := 40 } : Room)) (fun a U => a = #[(.ref a1), (.int p2)] ∧ Z.Warmed39 U.vm ∧ U.heap = h0) (fun _ _ _ _ _ => True) (fun _ U o U' => ∃ v L, o = .returned v ∧ Qrm2 Z a1 p2 tb kd cs ln i cz fm h0 n0 v U'.heap L ∧ FrameEnd U o U' L ({ frames := 3, cells := 0, slots := 0, locals := 40 } : Room).cells ({ frames := 3, cells := 0, slots := 0, locals := 40 } : Room).slots) := by
  refine MetFree.of_bodySF (plainFor_of_name pn_1) hisR ?_
  intro p e s m args below meth c s₁ Bd hml0 hP hK
  obtain ⟨rfl, hZ, hh⟩ := hP
  have hx := Bd.exec
  have hby := Bd.bytes
  have hml : c.maxLocals = 2 := hml0
  have hown : s.vm.findClass "java/lang/String" = some m.cls := findClass_of_methodNamed Bd.named
  have hnm := (name_of_methodNamed Bd.named Bd.method).1
  have X0 : Stand p l e ({ frames := 3, cells := 0, slots := 0, locals := 40 } : Room) s m #[(.ref a1), (.int p2)] below meth c s₁ [] 0 0 := Stand.of_body Bd
  have e0 : s₁.heap = h0 := by rw [← hh, Bd.state]; rfl
  have N0 := Fr.nil n0
  have pre0 : ∀ t, Steps p.tables e below (s₁.setTop (mkF m 0 #[.val (.ref a1), .val (.int p2)] [])) t → Steps p.tables e below (s₁.setTop (entryFrame m #[(.ref a1), (.int p2)] 2)) t := fun t k => castTop (ef_2 m a1 p2) k
  subst hp
  have pre1 : ∀ t, Steps p.tables e below (s₁.setTop (mkF m 1 #[.val (.ref a1), .val (.int (Int32.ofNat i))] [(.ref a1)])) t → Steps p.tables e below (s₁.setTop (entryFrame m #[(.ref a1), (.int (Int32.ofNat i))] 2)) t := by
    intro t kt
    refine pre0 t ?_
    show Steps p.tables e below (s₁.setTop (mkF m 0 #[.val (.ref a1), .val (.int (Int32.ofNat i))] [])) _
    refine XS.aloadN X0.here hx rfl (hb hby d2_0) rfl rfl ?_
    exact kt
  obtain ⟨cq2, kq2, q2a, q2b, q2c⟩ := isOf hZ e0 E_a1
  obtain ⟨_, _, ⟨T2, L2, k2, n2⟩, -, X2, ⟨Lc2, hQ2, l2, y2, z2⟩, st2⟩ := X0.virtualBack hx (y := (⟨"java/lang/String", "isLatin1", "()Z"⟩ : MethodName)) (z := (⟨"java/lang/String", "isLatin1", "()Z"⟩ : MethodName)) hown (mvT hZ (hw _ (List.mem_of_getElem? (i := 19) rfl))) (mvT hZ (hw _ (List.mem_of_getElem? (i := 20) rfl))) (notFace_of_selects (args := #[]) (mvT hZ (hw _ (List.mem_of_getElem? (i := 22) rfl)))) (mvT hZ (hw _ (List.mem_of_getElem? (i := 22) rfl))) (mvT hZ (hw _ (List.mem_of_getElem? (i := 21) rfl))) (by decide) (backOf (W := 0) (rm3 l Z a0 hw [] a1 cz h0 n0 Z0 ST_COMPACT_STRINGS F_coder_a1 (hCS)) hZ (hw _ (List.mem_of_getElem? (i := 23) rfl)) (hw _ (List.mem_of_getElem? (i := 1) rfl)) (by decide) (by decide)) q2a q2c (g := (mkF m 1 #[.val (.ref a1), .val (.int (Int32.ofNat i))] [(.ref a1)])) rfl (by rw [hml]; rfl) (Steps.refl _) (argsL := []) (rest := []) (lenOf pd_2 rfl) rfl (by show 2 * 0 + _ ≤ _; exact Nat.le_of_eq rfl) (hb hby d2_1) (fun _ _ => ⟨rfl, e0, (by decide : 0 + 0 ≤ _), (by decide : 0 + 0 ≤ _)⟩)
  dsimp only [Pt.U, Pt.locs, Pt.cells, Pt.slots] at X2 l2 y2 z2 st2 hQ2
  subst l2 y2 z2
  obtain ⟨rfl, N2q, e2⟩ := hQ2
  have N2 := Fr.app N0 N2q
  have pre2 : ∀ t, Steps p.tables e below (T2.setTop (mkF m 4 #[.val (.ref a1), .val (.int (Int32.ofNat i))] [(.int (1 : Int32))])) t → Steps p.tables e below (s₁.setTop (entryFrame m #[(.ref a1), (.int (Int32.ofNat i))] 2)) t := fun t kt => pre1 t (st2.trans kt)
  have pre3 : ∀ t, Steps p.tables e below (T2.setTop (mkF m 8 #[.val (.ref a1), .val (.int (Int32.ofNat i))] [(.ref a1)])) t → Steps p.tables e below (s₁.setTop (entryFrame m #[(.ref a1), (.int (Int32.ofNat i))] 2)) t := by
    intro t kt
    refine pre2 t ?_
    show Steps p.tables e below (T2.setTop (mkF m 4 #[.val (.ref a1), .val (.int (Int32.ofNat i))] [(.int (1 : Int32))])) _
    refine XS.ifNo X2.here hx rfl (hb hby d2_4) rfl ((if0 _ _).trans (feq (by decide)).1) ?_
    show Steps p.tables e below (T2.setTop (mkF m 7 #[.val (.ref a1), .val (.int (Int32.ofNat i))] [])) _
    refine XS.aloadN X2.here hx rfl (hb hby d2_7) rfl rfl ?_
    exact kt
  obtain ⟨T4, X4, e4, st4⟩ := getF X2 hx hZ hown (host := "") (Or.inl (hw _ (List.mem_of_getElem? (i := 26) rfl))) Via.refl e2 F_value_a1 (g := (mkF m 8 #[.val (.ref a1), .val (.int (Int32.ofNat i))] [(.ref a1)])) rfl rfl (hb hby d2_8)
  have pre4 : ∀ t, Steps p.tables e below (T4.setTop (mkF m 11 #[.val (.ref a1), .val (.int (Int32.ofNat i))] [(.ref tb)])) t → Steps p.tables e below (s₁.setTop (entryFrame m #[(.ref a1), (.int (Int32.ofNat i))] 2)) t := fun t kt => pre3 t (st4 _ kt)
  have pre5 : ∀ t, Steps p.tables e below (T4.setTop (mkF m 12 #[.val (.ref a1), .val (.int (Int32.ofNat i))] [(.int (Int32.ofNat i)), (.ref tb)])) t → Steps p.tables e below (s₁.setTop (entryFrame m #[(.ref a1), (.int (Int32.ofNat i))] 2)) t := by
    intro t kt
    refine pre4 t ?_
    show Steps p.tables e below (T4.setTop (mkF m 11 #[.val (.ref a1), .val (.int (Int32.ofNat i))] [(.ref tb)])) _
    refine XS.iloadN X4.here hx rfl (hb hby d2_11) rfl ?_
    exact kt
  obtain ⟨_, _, ⟨T6, L6, k6, n6⟩, -, X6, ⟨Lc6, hQ6, l6, y6, z6⟩, st6⟩ := Jvm.LawKit.callS X4 hx (y := (⟨"java/lang/StringLatin1", "charAt", "([BI)C"⟩ : MethodName)) hown (mvT hZ (hw _ (List.mem_of_getElem? (i := 27) rfl))) (mvT hZ (hw _ (List.mem_of_getElem? (i := 28) rfl))) (mvT hZ (hw _ (List.mem_of_getElem? (i := 29) rfl))) (mvT hZ (hw _ (List.mem_of_getElem? (i := 30) rfl))) (by decide) (backOf (W := 0) (rm4 l Z a0 hw [] tb (Int32.ofNat i) kd cs ln i fm h0 n0 Z0 V_tb ST_SIOOBE_FORMATTER (hFM) (hl) (hi) (rfl) (hcs)) hZ (hw _ (List.mem_of_getElem? (i := 30) rfl)) (hw _ (List.mem_of_getElem? (i := 29) rfl)) (by decide) (by decide)) (g := (mkF m 12 #[.val (.ref a1), .val (.int (Int32.ofNat i))] [(.int (Int32.ofNat i)), (.ref tb)])) rfl (by rw [hml]; rfl) (argsL := [(.ref tb), (.int (Int32.ofNat i))]) (rest := []) (lenOf pd_3 rfl) rfl (by show 2 * 0 + _ ≤ _; exact Nat.le_of_eq rfl) (hb hby d2_12) (fun _ _ => ⟨rfl, e4, (by decide : 0 + 0 ≤ _), (by decide : 0 + 0 ≤ _)⟩)
  dsimp only [Pt.U, Pt.locs, Pt.cells, Pt.slots] at X6 l6 y6 z6 st6 hQ6
  subst l6 y6 z6
  obtain ⟨rfl, N6q, e6⟩ := hQ6
  have N6 := Fr.app N2 N6q
  have pre6 : ∀ t, Steps p.tables e below (T6.setTop (mkF m 15 #[.val (.ref a1), .val (.int (Int32.ofNat i))] [(.int (cs.getD i 0))])) t → Steps p.tables e below (s₁.setTop (entryFrame m #[(.ref a1), (.int (Int32.ofNat i))] 2)) t := fun t kt => pre5 t (st6 _ kt)
  have hres : (nar .char (cs.getD i 0)) = (cs.getD i 0) := own_charnar hcs hi
  obtain ⟨fs, hr, hrun, hended, hW, hsame⟩ := X6.leave (v := some (.int (nar .char (cs.getD i 0)))) (fun h => by rw [Bd.returns] at h; cases h)
  refine ⟨_, _, pre6 _ ?_, hrun, hended, _, _, rfl, ?_, ⟨_, rfl⟩, hW, hsame.mono (by decide) (by decide)⟩
  · show Steps p.tables e below (T6.setTop (mkF m 15 #[.val (.ref a1), .val (.int (Int32.ofNat i))] [(.int (cs.getD i 0))])) _
    exact retN X6 hx (t := .char) Bd.returns (by simp) (hb hby d2_15) hr
  · show Qrm2 Z a1 (Int32.ofNat i) tb kd cs ln i cz fm h0 n0 _ T6.heap _
    rw [e6]
    exact ⟨congrArg some (congrArg Value.int hres), N6, rfl⟩
def Q0 (n0 : Nat) (v : Option Value) (h : Heap) (L : List Loc) : Prop := v = some (.int (1 : Int32)) ∧ Fr n0 L
theorem ef_0 (m : MethodId) (x0 : Int32) (x1 : Int32) : entryFrame m #[(.int x0), (.int x1)] maxLocals = mkF m 0 #[.val (.int x0), .val (.int x1), .unset, .unset, .unset, .unset, .unset, .unset, .unset] [] := by first | (simp [entryFrame, mkF, argsToLocals, Value.category, maxLocals]; done) | rfl
set_option maxRecDepth 65536 in
set_option maxHeartbeats 40000000 in
theorem rm0 (l : Launch) (Z : State) (a0 : Array Value) (hw : ∀ d ∈ tables_1, d.before a0 Z = true) (ws : List Jvm.Cond) (p1 : Int32) (p2 : Int32) (cz : Int32) (fm : Value) (h0 : Heap) (n0 : Nat) (Z0 : n0 ≤ h0.size) (hn0 : n0 = h0.size) (SCS : Sta Z h0 "java/lang/String" "COMPACT_STRINGS" "Z" (.int cz)) (SFM : Sta Z h0 "jdk/internal/util/Preconditions" "SIOOBE_FORMATTER" "Ljava/util/function/BiFunction;" fm) (hCS : ¬ (cz = (0 : Int32))) (hFM : fm.isRef = true) (hcw : Jvm.Lit.compactW.before a0 Z = true) (hh1 : Jvm.Lit.constHeld Z "com/example/nodearc/nodearc/io/NTriplesGrammarHexValuePinLaw" 7) (hh2 : Jvm.Lit.constHeld Z "com/example/nodearc/nodearc/io/NTriplesGrammarHexValuePinLaw" 9) :
    MetFree l x (head1 (Jvm.Cond.code x code maxLocals ret :: ws) room_1) (fun a U => a = #[(.int p1), (.int p2)] ∧ Z.Warmed39 U.vm ∧ U.heap = h0 ∧ Z.heap = h0 ∧ U.vm.interned = Z.vm.interned) (fun _ _ _ _ _ => True) (fun _ U o U' => ∃ v L, o = .returned v ∧ Q0 n0 v U'.heap L ∧ ReturnedEndW U o U' L room_1.cells room_1.slots) := by
  refine MetFree.of_bodySF (plainFor_of_name pn_4) hisR ?_
  intro p e s m args below meth c s₁ Bd hml0 hP hK
  obtain ⟨rfl, hZ, hh, hzh, hint⟩ := hP
  have hn0' : n0 = s.heap.size := by rw [hh]; exact hn0
  have hS0 : s.Since s.vm 0 := (State.WarmedH.refl s).since 0
  have IB0 : IB Z s.vm [] := ⟨#[], by simp [hint], fun q hq => by simp at hq⟩
  have hkeep : ∀ (b : Addr) (cl : Cell), Z.heap[b]? = some cl → s.heap[b]? = some cl := fun b cl q => by rw [hh, ← hzh]; exact q
  have hx := Bd.exec
  have hby := Bd.bytes
  have hml : c.maxLocals = 9 := hml0
  have hown : s.vm.findClass "com/example/nodearc/nodearc/io/NTriplesGrammarHexValuePinLaw" = some m.cls := findClass_of_methodNamed Bd.named
  have hnm := (name_of_methodNamed Bd.named Bd.method).1
  have X0 : Stand p l e room_1 s m #[(.int p1), (.int p2)] below meth c s₁ [] 0 0 := Stand.of_body Bd
  have e0 : s₁.heap = h0 := by rw [← hh, Bd.state]; rfl
  have N0 := Fr.nil n0
  have pre0 : ∀ t, Steps p.tables e below (s₁.setTop (mkF m 0 #[.val (.int p1), .val (.int p2), .unset, .unset, .unset, .unset, .unset, .unset, .unset] [])) t → Steps p.tables e below (s₁.setTop (entryFrame m #[(.int p1), (.int p2)] maxLocals)) t := fun t k => castTop (ef_0 m p1 p2) k
  have wS : ∀ a ∈ Bundle.stringAtoms, a.before a0 Z = true := fun d hd => hw d ((by decide +kernel : ∀ d ∈ Bundle.stringAtoms, d ∈ tables_1) d hd)
  obtain ⟨a1, T1, h1, k1, b1, kb1, X1, e1, E1, hS1, hk1, hZ, hown, A1, C1, F1, V1, la1, lb1, I1, Li1, st1⟩ := ldcSVL (s := s) (vm0 := s.vm) (text := own_t0) (Ts := []) X0 hx hZ hown (hw _ (List.mem_of_getElem? (i := 0) rfl)) wS e0 hS0 (Nat.zero_le _) (hn0' ▸ N0) hkeep IB0 (fun q => nomatch q) hh1 hcw (vs := (own_cs0.map fun c => c.toInt8.toInt32).map Value.int) (z := (16 : Int32)) own_ht0 (by decide) (by decide +kernel) (g := (mkF m 0 #[.val (.int p1), .val (.int p2), .unset, .unset, .unset, .unset, .unset, .unset, .unset] [])) rfl (hb hby at_0) (n := 64) (by decide +kernel) (by decide) (by decide) (by decide)
  have K1 : Keep h0 h1 [] := (Keep.refl h0 []).ext E1
  have Z1 : n0 ≤ h1.size := Nat.le_trans Z0 E1.1
  have mo1_0 := Nat.le_trans (Nat.zero_le _) E1.1
  have SCS_2 := SCS.ext E1
  have SFM_3 := SFM.ext E1
  have pre1 : ∀ t, Steps p.tables e below (T1.setTop (mkF m 2 #[.val (.int p1), .val (.int p2), .unset, .unset, .unset, .unset, .unset, .unset, .unset] [(.ref a1)])) t → Steps p.tables e below (s₁.setTop (entryFrame m #[(.int p1), (.int p2)] maxLocals)) t := fun t kt => pre0 t (st1 _ kt)
  have pre4 : ∀ t, Steps p.tables e below (T1.setTop (mkF m 3 #[.val (.int p1), .val (.int p2), .val (.ref a1), .unset, .unset, .unset, .unset, .unset, .unset] [])) t → Steps p.tables e below (s₁.setTop (entryFrame m #[(.int p1), (.int p2)] maxLocals)) t := by
    intro t kt
    refine pre1 t ?_
    show Steps p.tables e below (T1.setTop (mkF m 2 #[.val (.int p1), .val (.int p2), .unset, .unset, .unset, .unset, .unset, .unset, .unset] [(.ref a1)])) _
    refine XS.astoreN X1.here hx rfl (hb hby at_2) rfl rfl (l' := #[.val (.int p1), .val (.int p2), .val (.ref a1), .unset, .unset, .unset, .unset, .unset, .unset]) rfl ?_
    exact kt
  obtain ⟨a5, T5, h5, k5, b5, kb5, X5, e5, E5, hS5, hk5, hZ, hown, A5, C5, F5, V5, la5, lb5, I5, Li5, st5⟩ := ldcSVL (s := s) (vm0 := T1.vm) (text := own_t8) (Ts := [own_t0]) X1 hx hZ hown (hw _ (List.mem_of_getElem? (i := 8) rfl)) wS e1 hS1 hk1 (hn0' ▸ N0) hkeep I1 (by decide +kernel) hh2 hcw (vs := (own_cs8.map fun c => c.toInt8.toInt32).map Value.int) (z := (16 : Int32)) own_ht8 (by decide) (by decide +kernel) (g := (mkF m 3 #[.val (.int p1), .val (.int p2), .val (.ref a1), .unset, .unset, .unset, .unset, .unset, .unset] [])) rfl (hb hby at_3) (n := 64) (by decide +kernel) (by decide) (by decide) (by decide)
  have K5 : Keep h0 h5 [] := K1.ext E5
  have Z5 : n0 ≤ h5.size := Nat.le_trans Z1 E5.1
  have mo5_0 := Nat.le_trans hk1 E5.1
  have SCS_6 := SCS_2.ext E5
  have SFM_7 := SFM_3.ext E5
  have A1_8 := A1.ext E5
  have C1_9 := C1.ext E5
  have F1_10 := F1.ext E5
  have V1_11 := V1.ext E5
  have pre5 : ∀ t, Steps p.tables e below (T5.setTop (mkF m 5 #[.val (.int p1), .val (.int p2), .val (.ref a1), .unset, .unset, .unset, .unset, .unset, .unset] [(.ref a5)])) t → Steps p.tables e below (s₁.setTop (entryFrame m #[(.int p1), (.int p2)] maxLocals)) t := fun t kt => pre4 t (st5 _ kt)
  have pre12 : ∀ t, Steps p.tables e below (T5.setTop (mkF m 19 #[.val (.int p1), .val (.int p2), .val (.ref a1), .val (.ref a5), .val (.int ((p1 &&& (65535 : Int32)).toUInt32.toUInt16.toUInt32.toInt32)), .val (.int (p2 &&& (15 : Int32))), .unset, .unset, .unset] [])) t → Steps p.tables e below (s₁.setTop (entryFrame m #[(.int p1), (.int p2)] maxLocals)) t := by
    intro t kt
    refine pre5 t ?_
    show Steps p.tables e below (T5.setTop (mkF m 5 #[.val (.int p1), .val (.int p2), .val (.ref a1), .unset, .unset, .unset, .unset, .unset, .unset] [(.ref a5)])) _
    refine XS.astoreN X5.here hx rfl (hb hby at_5) rfl rfl (l' := #[.val (.int p1), .val (.int p2), .val (.ref a1), .val (.ref a5), .unset, .unset, .unset, .unset, .unset]) rfl ?_
    show Steps p.tables e below (T5.setTop (mkF m 6 #[.val (.int p1), .val (.int p2), .val (.ref a1), .val (.ref a5), .unset, .unset, .unset, .unset, .unset] [])) _
    refine XS.iloadN X5.here hx rfl (hb hby at_6) rfl ?_
    show Steps p.tables e below (T5.setTop (mkF m 7 #[.val (.int p1), .val (.int p2), .val (.ref a1), .val (.ref a5), .unset, .unset, .unset, .unset, .unset] [(.int p1)])) _
    refine X5.ldcInt hx hown (mvT hZ (hw _ (List.mem_of_getElem? (i := 9) rfl))) (g := (mkF m 7 #[.val (.int p1), .val (.int p2), .val (.ref a1), .val (.ref a5), .unset, .unset, .unset, .unset, .unset] [(.int p1)])) rfl (hb hby at_7) _ ?_
    show Steps p.tables e below (T5.setTop (mkF m 9 #[.val (.int p1), .val (.int p2), .val (.ref a1), .val (.ref a5), .unset, .unset, .unset, .unset, .unset] [(.int (65535 : Int32)), (.int p1)])) _
    refine XS.iand X5.here hx rfl (hb hby at_9) rfl ?_
    show Steps p.tables e below (T5.setTop (mkF m 10 #[.val (.int p1), .val (.int p2), .val (.ref a1), .val (.ref a5), .unset, .unset, .unset, .unset, .unset] [(.int (p1 &&& (65535 : Int32)))])) _
    refine XS.i2c X5.here hx rfl (hb hby at_10) rfl ?_
    show Steps p.tables e below (T5.setTop (mkF m 11 #[.val (.int p1), .val (.int p2), .val (.ref a1), .val (.ref a5), .unset, .unset, .unset, .unset, .unset] [(.int ((p1 &&& (65535 : Int32)).toUInt32.toUInt16.toUInt32.toInt32))])) _
    refine XS.istore X5.here hx rfl (hb hby at_11) rfl (l' := #[.val (.int p1), .val (.int p2), .val (.ref a1), .val (.ref a5), .val (.int ((p1 &&& (65535 : Int32)).toUInt32.toUInt16.toUInt32.toInt32)), .unset, .unset, .unset, .unset]) rfl ?_
    show Steps p.tables e below (T5.setTop (mkF m 13 #[.val (.int p1), .val (.int p2), .val (.ref a1), .val (.ref a5), .val (.int ((p1 &&& (65535 : Int32)).toUInt32.toUInt16.toUInt32.toInt32)), .unset, .unset, .unset, .unset] [])) _
    refine XS.iloadN X5.here hx rfl (hb hby at_13) rfl ?_
    show Steps p.tables e below (T5.setTop (mkF m 14 #[.val (.int p1), .val (.int p2), .val (.ref a1), .val (.ref a5), .val (.int ((p1 &&& (65535 : Int32)).toUInt32.toUInt16.toUInt32.toInt32)), .unset, .unset, .unset, .unset] [(.int p2)])) _
    refine XS.bipush X5.here hx rfl (hb hby at_14) ?_
    show Steps p.tables e below (T5.setTop (mkF m 16 #[.val (.int p1), .val (.int p2), .val (.ref a1), .val (.ref a5), .val (.int ((p1 &&& (65535 : Int32)).toUInt32.toUInt16.toUInt32.toInt32)), .unset, .unset, .unset, .unset] [(.int (15 : Int32)), (.int p2)])) _
    refine XS.iand X5.here hx rfl (hb hby at_16) rfl ?_
    show Steps p.tables e below (T5.setTop (mkF m 17 #[.val (.int p1), .val (.int p2), .val (.ref a1), .val (.ref a5), .val (.int ((p1 &&& (65535 : Int32)).toUInt32.toUInt16.toUInt32.toInt32)), .unset, .unset, .unset, .unset] [(.int (p2 &&& (15 : Int32)))])) _
    refine XS.istore X5.here hx rfl (hb hby at_17) rfl (l' := #[.val (.int p1), .val (.int p2), .val (.ref a1), .val (.ref a5), .val (.int ((p1 &&& (65535 : Int32)).toUInt32.toUInt16.toUInt32.toInt32)), .val (.int (p2 &&& (15 : Int32))), .unset, .unset, .unset]) rfl ?_
    exact kt
  obtain ⟨iv, hiv, ev⟩ := own_nat16 p2
  rw [ev] at pre12
  have pre13 : ∀ t, Steps p.tables e below (T5.setTop (mkF m 21 #[.val (.int p1), .val (.int p2), .val (.ref a1), .val (.ref a5), .val (.int ((p1 &&& (65535 : Int32)).toUInt32.toUInt16.toUInt32.toInt32)), .val (.int (Int32.ofNat iv)), .unset, .unset, .unset] [(.int ((p1 &&& (65535 : Int32)).toUInt32.toUInt16.toUInt32.toInt32))])) t → Steps p.tables e below (s₁.setTop (entryFrame m #[(.int p1), (.int p2)] maxLocals)) t := by
    intro t kt
    refine pre12 t ?_
    show Steps p.tables e below (T5.setTop (mkF m 19 #[.val (.int p1), .val (.int p2), .val (.ref a1), .val (.ref a5), .val (.int ((p1 &&& (65535 : Int32)).toUInt32.toUInt16.toUInt32.toInt32)), .val (.int (Int32.ofNat iv)), .unset, .unset, .unset] [])) _
    refine XS.iload X5.here hx rfl (hb hby at_19) rfl ?_
    exact kt
  obtain ⟨_, _, ⟨T14, L14, k14, n14⟩, -, X14, ⟨Lc14, hQ14, l14, y14, z14⟩, st14⟩ := Jvm.LawKit.callS X5 hx (y := (⟨"com/example/nodearc/nodearc/io/NTriplesGrammar", "hexValue", "(C)I"⟩ : MethodName)) hown (mvT hZ (hw _ (List.mem_of_getElem? (i := 10) rfl))) (mvT hZ (hw _ (List.mem_of_getElem? (i := 11) rfl))) (mvT hZ (hw _ (List.mem_of_getElem? (i := 12) rfl))) (mvT hZ (hw _ (List.mem_of_getElem? (i := 13) rfl))) (by decide) (backOf (W := 0) (rm1 l Z a0 hw [] ((p1 &&& (65535 : Int32)).toUInt32.toUInt16.toUInt32.toInt32) h5 n0) hZ (hw _ (List.mem_of_getElem? (i := 13) rfl)) (hw _ (List.mem_of_getElem? (i := 12) rfl)) (by decide) (by decide)) (g := (mkF m 21 #[.val (.int p1), .val (.int p2), .val (.ref a1), .val (.ref a5), .val (.int ((p1 &&& (65535 : Int32)).toUInt32.toUInt16.toUInt32.toInt32)), .val (.int (Int32.ofNat iv)), .unset, .unset, .unset] [(.int ((p1 &&& (65535 : Int32)).toUInt32.toUInt16.toUInt32.toInt32))])) rfl (by rw [hml]; rfl) (argsL := [(.int ((p1 &&& (65535 : Int32)).toUInt32.toUInt16.toUInt32.toInt32))]) (rest := []) (lenOf pd_4 rfl) rfl (by show 2 * 0 + _ ≤ _; exact Nat.le_of_eq rfl) (hb hby at_21) (fun _ _ => ⟨rfl, e5, (by decide : 4 + 0 ≤ _), (by decide : 136 + 0 ≤ _)⟩)
  dsimp only [Pt.U, Pt.locs, Pt.cells, Pt.slots] at X14 l14 y14 z14 st14 hQ14
  subst l14 y14 z14
  obtain ⟨rfl, N14q, e14⟩ := hQ14
  have N14 := Fr.app N0 N14q
  have pre14 : ∀ t, Steps p.tables e below (T14.setTop (mkF m 24 #[.val (.int p1), .val (.int p2), .val (.ref a1), .val (.ref a5), .val (.int ((p1 &&& (65535 : Int32)).toUInt32.toUInt16.toUInt32.toInt32)), .val (.int (Int32.ofNat iv)), .unset, .unset, .unset] [(.int (own_f1 ((p1 &&& (65535 : Int32)).toUInt32.toUInt16.toUInt32.toInt32)))])) t → Steps p.tables e below (s₁.setTop (entryFrame m #[(.int p1), (.int p2)] maxLocals)) t := fun t kt => pre13 t (st14 _ kt)
  have pre15 : ∀ t, Steps p.tables e below (T14.setTop (mkF m 29 #[.val (.int p1), .val (.int p2), .val (.ref a1), .val (.ref a5), .val (.int ((p1 &&& (65535 : Int32)).toUInt32.toUInt16.toUInt32.toInt32)), .val (.int (Int32.ofNat iv)), .val (.int (own_f1 ((p1 &&& (65535 : Int32)).toUInt32.toUInt16.toUInt32.toInt32))), .unset, .unset] [(.int (-1 : Int32)), (.int (own_f1 ((p1 &&& (65535 : Int32)).toUInt32.toUInt16.toUInt32.toInt32)))])) t → Steps p.tables e below (s₁.setTop (entryFrame m #[(.int p1), (.int p2)] maxLocals)) t := by
    intro t kt
    refine pre14 t ?_
    show Steps p.tables e below (T14.setTop (mkF m 24 #[.val (.int p1), .val (.int p2), .val (.ref a1), .val (.ref a5), .val (.int ((p1 &&& (65535 : Int32)).toUInt32.toUInt16.toUInt32.toInt32)), .val (.int (Int32.ofNat iv)), .unset, .unset, .unset] [(.int (own_f1 ((p1 &&& (65535 : Int32)).toUInt32.toUInt16.toUInt32.toInt32)))])) _
    refine XS.istore X14.here hx rfl (hb hby at_24) rfl (l' := #[.val (.int p1), .val (.int p2), .val (.ref a1), .val (.ref a5), .val (.int ((p1 &&& (65535 : Int32)).toUInt32.toUInt16.toUInt32.toInt32)), .val (.int (Int32.ofNat iv)), .val (.int (own_f1 ((p1 &&& (65535 : Int32)).toUInt32.toUInt16.toUInt32.toInt32))), .unset, .unset]) rfl ?_
    show Steps p.tables e below (T14.setTop (mkF m 26 #[.val (.int p1), .val (.int p2), .val (.ref a1), .val (.ref a5), .val (.int ((p1 &&& (65535 : Int32)).toUInt32.toUInt16.toUInt32.toInt32)), .val (.int (Int32.ofNat iv)), .val (.int (own_f1 ((p1 &&& (65535 : Int32)).toUInt32.toUInt16.toUInt32.toInt32))), .unset, .unset] [])) _
    refine XS.iload X14.here hx rfl (hb hby at_26) rfl ?_
    show Steps p.tables e below (T14.setTop (mkF m 28 #[.val (.int p1), .val (.int p2), .val (.ref a1), .val (.ref a5), .val (.int ((p1 &&& (65535 : Int32)).toUInt32.toUInt16.toUInt32.toInt32)), .val (.int (Int32.ofNat iv)), .val (.int (own_f1 ((p1 &&& (65535 : Int32)).toUInt32.toUInt16.toUInt32.toInt32))), .unset, .unset] [(.int (own_f1 ((p1 &&& (65535 : Int32)).toUInt32.toUInt16.toUInt32.toInt32)))])) _
    refine XS.iconst X14.here hx rfl (hb hby at_28) ?_
    exact kt
  by_cases hc29 : (own_f1 ((p1 &&& (65535 : Int32)).toUInt32.toUInt16.toUInt32.toInt32)) = (-1 : Int32)
  · have pre16 : ∀ t, Steps p.tables e below (T14.setTop (mkF m 32 #[.val (.int p1), .val (.int p2), .val (.ref a1), .val (.ref a5), .val (.int ((p1 &&& (65535 : Int32)).toUInt32.toUInt16.toUInt32.toInt32)), .val (.int (Int32.ofNat iv)), .val (.int (own_f1 ((p1 &&& (65535 : Int32)).toUInt32.toUInt16.toUInt32.toInt32))), .unset, .unset] [])) t → Steps p.tables e below (s₁.setTop (entryFrame m #[(.int p1), (.int p2)] maxLocals)) t := by
      intro t kt
      refine pre15 t ?_
      show Steps p.tables e below (T14.setTop (mkF m 29 #[.val (.int p1), .val (.int p2), .val (.ref a1), .val (.ref a5), .val (.int ((p1 &&& (65535 : Int32)).toUInt32.toUInt16.toUInt32.toInt32)), .val (.int (Int32.ofNat iv)), .val (.int (own_f1 ((p1 &&& (65535 : Int32)).toUInt32.toUInt16.toUInt32.toInt32))), .unset, .unset] [(.int (-1 : Int32)), (.int (own_f1 ((p1 &&& (65535 : Int32)).toUInt32.toUInt16.toUInt32.toInt32)))])) _
      refine XS.icmpNo X14.here hx rfl (hb hby at_29) rfl (teq hc29).2 ?_
      exact kt
    have pre17 : ∀ t, Steps p.tables e below (T14.setTop (mkF m 88 #[.val (.int p1), .val (.int p2), .val (.ref a1), .val (.ref a5), .val (.int ((p1 &&& (65535 : Int32)).toUInt32.toUInt16.toUInt32.toInt32)), .val (.int (Int32.ofNat iv)), .val (.int (own_f1 ((p1 &&& (65535 : Int32)).toUInt32.toUInt16.toUInt32.toInt32))), .val (.int (1 : Int32)), .unset] [(.int (Int32.ofNat iv)), (.ref a1)])) t → Steps p.tables e below (s₁.setTop (entryFrame m #[(.int p1), (.int p2)] maxLocals)) t := by
      intro t kt
      refine pre16 t ?_
      show Steps p.tables e below (T14.setTop (mkF m 32 #[.val (.int p1), .val (.int p2), .val (.ref a1), .val (.ref a5), .val (.int ((p1 &&& (65535 : Int32)).toUInt32.toUInt16.toUInt32.toInt32)), .val (.int (Int32.ofNat iv)), .val (.int (own_f1 ((p1 &&& (65535 : Int32)).toUInt32.toUInt16.toUInt32.toInt32))), .unset, .unset] [])) _
      refine XS.iconst X14.here hx rfl (hb hby at_32) ?_
      show Steps p.tables e below (T14.setTop (mkF m 33 #[.val (.int p1), .val (.int p2), .val (.ref a1), .val (.ref a5), .val (.int ((p1 &&& (65535 : Int32)).toUInt32.toUInt16.toUInt32.toInt32)), .val (.int (Int32.ofNat iv)), .val (.int (own_f1 ((p1 &&& (65535 : Int32)).toUInt32.toUInt16.toUInt32.toInt32))), .unset, .unset] [(.int (1 : Int32))])) _
      refine XS.istore X14.here hx rfl (hb hby at_33) rfl (l' := #[.val (.int p1), .val (.int p2), .val (.ref a1), .val (.ref a5), .val (.int ((p1 &&& (65535 : Int32)).toUInt32.toUInt16.toUInt32.toInt32)), .val (.int (Int32.ofNat iv)), .val (.int (own_f1 ((p1 &&& (65535 : Int32)).toUInt32.toUInt16.toUInt32.toInt32))), .val (.int (1 : Int32)), .unset]) rfl ?_
      show Steps p.tables e below (T14.setTop (mkF m 35 #[.val (.int p1), .val (.int p2), .val (.ref a1), .val (.ref a5), .val (.int ((p1 &&& (65535 : Int32)).toUInt32.toUInt16.toUInt32.toInt32)), .val (.int (Int32.ofNat iv)), .val (.int (own_f1 ((p1 &&& (65535 : Int32)).toUInt32.toUInt16.toUInt32.toInt32))), .val (.int (1 : Int32)), .unset] [])) _
      refine XS.goto X14.here hx rfl (pc0 := 35) (pc' := 85) rfl (hb hby at_35) (by decide) (by decide) ?_
      show Steps p.tables e below (T14.setTop (mkF m 85 #[.val (.int p1), .val (.int p2), .val (.ref a1), .val (.ref a5), .val (.int ((p1 &&& (65535 : Int32)).toUInt32.toUInt16.toUInt32.toInt32)), .val (.int (Int32.ofNat iv)), .val (.int (own_f1 ((p1 &&& (65535 : Int32)).toUInt32.toUInt16.toUInt32.toInt32))), .val (.int (1 : Int32)), .unset] [])) _
      refine XS.aloadN X14.here hx rfl (hb hby at_85) rfl rfl ?_
      show Steps p.tables e below (T14.setTop (mkF m 86 #[.val (.int p1), .val (.int p2), .val (.ref a1), .val (.ref a5), .val (.int ((p1 &&& (65535 : Int32)).toUInt32.toUInt16.toUInt32.toInt32)), .val (.int (Int32.ofNat iv)), .val (.int (own_f1 ((p1 &&& (65535 : Int32)).toUInt32.toUInt16.toUInt32.toInt32))), .val (.int (1 : Int32)), .unset] [(.ref a1)])) _
      refine XS.iload X14.here hx rfl (hb hby at_86) rfl ?_
      exact kt
    obtain ⟨cq18, kq18, q18a, q18b, q18c⟩ := isOf hZ e14 A1_8
    obtain ⟨_, _, ⟨T18, L18, k18, n18⟩, -, X18, ⟨Lc18, hQ18, l18, y18, z18⟩, st18⟩ := X14.virtualBack hx (y := (⟨"java/lang/String", "charAt", "(I)C"⟩ : MethodName)) (z := (⟨"java/lang/String", "charAt", "(I)C"⟩ : MethodName)) hown (mvT hZ (hw _ (List.mem_of_getElem? (i := 14) rfl))) (mvT hZ (hw _ (List.mem_of_getElem? (i := 15) rfl))) (notFace_of_selects (args := #[]) (mvT hZ (hw _ (List.mem_of_getElem? (i := 17) rfl)))) (mvT hZ (hw _ (List.mem_of_getElem? (i := 17) rfl))) (mvT hZ (hw _ (List.mem_of_getElem? (i := 16) rfl))) (by decide) (backOf (W := 0) (rm2 l Z a0 hw [] a1 (Int32.ofNat iv) b1 kb1 own_cs0 (16 : Int32) iv cz fm h5 n0 Z5 A1_8 F1_10 C1_9 V1_11 SCS_6 SFM_7 (hCS) (hFM) (own_hl0) (own_hi0 hiv) (rfl) (own_hc0)) hZ (hw _ (List.mem_of_getElem? (i := 18) rfl)) (hw _ (List.mem_of_getElem? (i := 1) rfl)) (by decide) (by decide)) q18a q18c (g := (mkF m 88 #[.val (.int p1), .val (.int p2), .val (.ref a1), .val (.ref a5), .val (.int ((p1 &&& (65535 : Int32)).toUInt32.toUInt16.toUInt32.toInt32)), .val (.int (Int32.ofNat iv)), .val (.int (own_f1 ((p1 &&& (65535 : Int32)).toUInt32.toUInt16.toUInt32.toInt32))), .val (.int (1 : Int32)), .unset] [(.int (Int32.ofNat iv)), (.ref a1)])) rfl (by rw [hml]; rfl) (Steps.refl _) (argsL := [(.int (Int32.ofNat iv))]) (rest := []) (lenOf pd_5 rfl) rfl (by show 2 * 0 + _ ≤ _; exact Nat.le_of_eq rfl) (hb hby at_88) (fun _ _ => ⟨rfl, e14, (by decide : 4 + 0 ≤ _), (by decide : 136 + 0 ≤ _)⟩)
    dsimp only [Pt.U, Pt.locs, Pt.cells, Pt.slots] at X18 l18 y18 z18 st18 hQ18
    subst l18 y18 z18
    obtain ⟨rfl, N18q, e18⟩ := hQ18
    have N18 := Fr.app N14 N18q
    have pre18 : ∀ t, Steps p.tables e below (T18.setTop (mkF m 91 #[.val (.int p1), .val (.int p2), .val (.ref a1), .val (.ref a5), .val (.int ((p1 &&& (65535 : Int32)).toUInt32.toUInt16.toUInt32.toInt32)), .val (.int (Int32.ofNat iv)), .val (.int (own_f1 ((p1 &&& (65535 : Int32)).toUInt32.toUInt16.toUInt32.toInt32))), .val (.int (1 : Int32)), .unset] [(.int (own_cs0.getD iv 0))])) t → Steps p.tables e below (s₁.setTop (entryFrame m #[(.int p1), (.int p2)] maxLocals)) t := fun t kt => pre17 t (st18.trans kt)
    obtain ⟨_, _, ⟨T19, L19, k19, n19⟩, -, X19, ⟨Lc19, hQ19, l19, y19, z19⟩, st19⟩ := Jvm.LawKit.callS X18 hx (y := (⟨"com/example/nodearc/nodearc/io/NTriplesGrammar", "hexValue", "(C)I"⟩ : MethodName)) hown (mvT hZ (hw _ (List.mem_of_getElem? (i := 10) rfl))) (mvT hZ (hw _ (List.mem_of_getElem? (i := 11) rfl))) (mvT hZ (hw _ (List.mem_of_getElem? (i := 12) rfl))) (mvT hZ (hw _ (List.mem_of_getElem? (i := 13) rfl))) (by decide) (backOf (W := 0) (rm1 l Z a0 hw [] (own_cs0.getD iv 0) h5 n0) hZ (hw _ (List.mem_of_getElem? (i := 13) rfl)) (hw _ (List.mem_of_getElem? (i := 12) rfl)) (by decide) (by decide)) (g := (mkF m 91 #[.val (.int p1), .val (.int p2), .val (.ref a1), .val (.ref a5), .val (.int ((p1 &&& (65535 : Int32)).toUInt32.toUInt16.toUInt32.toInt32)), .val (.int (Int32.ofNat iv)), .val (.int (own_f1 ((p1 &&& (65535 : Int32)).toUInt32.toUInt16.toUInt32.toInt32))), .val (.int (1 : Int32)), .unset] [(.int (own_cs0.getD iv 0))])) rfl (by rw [hml]; rfl) (argsL := [(.int (own_cs0.getD iv 0))]) (rest := []) (lenOf pd_4 rfl) rfl (by show 2 * 0 + _ ≤ _; exact Nat.le_of_eq rfl) (hb hby at_91) (fun _ _ => ⟨rfl, e18, (by decide : 4 + 0 ≤ _), (by decide : 136 + 0 ≤ _)⟩)
    dsimp only [Pt.U, Pt.locs, Pt.cells, Pt.slots] at X19 l19 y19 z19 st19 hQ19
    subst l19 y19 z19
    obtain ⟨rfl, N19q, e19⟩ := hQ19
    have N19 := Fr.app N18 N19q
    have pre19 : ∀ t, Steps p.tables e below (T19.setTop (mkF m 94 #[.val (.int p1), .val (.int p2), .val (.ref a1), .val (.ref a5), .val (.int ((p1 &&& (65535 : Int32)).toUInt32.toUInt16.toUInt32.toInt32)), .val (.int (Int32.ofNat iv)), .val (.int (own_f1 ((p1 &&& (65535 : Int32)).toUInt32.toUInt16.toUInt32.toInt32))), .val (.int (1 : Int32)), .unset] [(.int (own_f1 (own_cs0.getD iv 0)))])) t → Steps p.tables e below (s₁.setTop (entryFrame m #[(.int p1), (.int p2)] maxLocals)) t := fun t kt => pre18 t (st19 _ kt)
    have pre20 : ∀ t, Steps p.tables e below (T19.setTop (mkF m 102 #[.val (.int p1), .val (.int p2), .val (.ref a1), .val (.ref a5), .val (.int ((p1 &&& (65535 : Int32)).toUInt32.toUInt16.toUInt32.toInt32)), .val (.int (Int32.ofNat iv)), .val (.int (own_f1 ((p1 &&& (65535 : Int32)).toUInt32.toUInt16.toUInt32.toInt32))), .val (.int (1 : Int32)), .unset] [(.int (Int32.ofNat iv)), (.ref a5)])) t → Steps p.tables e below (s₁.setTop (entryFrame m #[(.int p1), (.int p2)] maxLocals)) t := by
      intro t kt
      refine pre19 t ?_
      show Steps p.tables e below (T19.setTop (mkF m 94 #[.val (.int p1), .val (.int p2), .val (.ref a1), .val (.ref a5), .val (.int ((p1 &&& (65535 : Int32)).toUInt32.toUInt16.toUInt32.toInt32)), .val (.int (Int32.ofNat iv)), .val (.int (own_f1 ((p1 &&& (65535 : Int32)).toUInt32.toUInt16.toUInt32.toInt32))), .val (.int (1 : Int32)), .unset] [(.int (own_f1 (own_cs0.getD iv 0)))])) _
      refine XS.iload X19.here hx rfl (hb hby at_94) rfl ?_
      show Steps p.tables e below (T19.setTop (mkF m 96 #[.val (.int p1), .val (.int p2), .val (.ref a1), .val (.ref a5), .val (.int ((p1 &&& (65535 : Int32)).toUInt32.toUInt16.toUInt32.toInt32)), .val (.int (Int32.ofNat iv)), .val (.int (own_f1 ((p1 &&& (65535 : Int32)).toUInt32.toUInt16.toUInt32.toInt32))), .val (.int (1 : Int32)), .unset] [(.int (Int32.ofNat iv)), (.int (own_f1 (own_cs0.getD iv 0)))])) _
      refine XS.icmpNo X19.here hx rfl (hb hby at_96) rfl (teq (own_lo hiv)).2 ?_
      show Steps p.tables e below (T19.setTop (mkF m 99 #[.val (.int p1), .val (.int p2), .val (.ref a1), .val (.ref a5), .val (.int ((p1 &&& (65535 : Int32)).toUInt32.toUInt16.toUInt32.toInt32)), .val (.int (Int32.ofNat iv)), .val (.int (own_f1 ((p1 &&& (65535 : Int32)).toUInt32.toUInt16.toUInt32.toInt32))), .val (.int (1 : Int32)), .unset] [])) _
      refine XS.aloadN X19.here hx rfl (hb hby at_99) rfl rfl ?_
      show Steps p.tables e below (T19.setTop (mkF m 100 #[.val (.int p1), .val (.int p2), .val (.ref a1), .val (.ref a5), .val (.int ((p1 &&& (65535 : Int32)).toUInt32.toUInt16.toUInt32.toInt32)), .val (.int (Int32.ofNat iv)), .val (.int (own_f1 ((p1 &&& (65535 : Int32)).toUInt32.toUInt16.toUInt32.toInt32))), .val (.int (1 : Int32)), .unset] [(.ref a5)])) _
      refine XS.iload X19.here hx rfl (hb hby at_100) rfl ?_
      exact kt
    obtain ⟨cq21, kq21, q21a, q21b, q21c⟩ := isOf hZ e19 A5
    obtain ⟨_, _, ⟨T21, L21, k21, n21⟩, -, X21, ⟨Lc21, hQ21, l21, y21, z21⟩, st21⟩ := X19.virtualBack hx (y := (⟨"java/lang/String", "charAt", "(I)C"⟩ : MethodName)) (z := (⟨"java/lang/String", "charAt", "(I)C"⟩ : MethodName)) hown (mvT hZ (hw _ (List.mem_of_getElem? (i := 14) rfl))) (mvT hZ (hw _ (List.mem_of_getElem? (i := 15) rfl))) (notFace_of_selects (args := #[]) (mvT hZ (hw _ (List.mem_of_getElem? (i := 17) rfl)))) (mvT hZ (hw _ (List.mem_of_getElem? (i := 17) rfl))) (mvT hZ (hw _ (List.mem_of_getElem? (i := 16) rfl))) (by decide) (backOf (W := 0) (rm2 l Z a0 hw [] a5 (Int32.ofNat iv) b5 kb5 own_cs8 (16 : Int32) iv cz fm h5 n0 Z5 A5 F5 C5 V5 SCS_6 SFM_7 (hCS) (hFM) (own_hl8) (own_hi8 hiv) (rfl) (own_hc8)) hZ (hw _ (List.mem_of_getElem? (i := 18) rfl)) (hw _ (List.mem_of_getElem? (i := 1) rfl)) (by decide) (by decide)) q21a q21c (g := (mkF m 102 #[.val (.int p1), .val (.int p2), .val (.ref a1), .val (.ref a5), .val (.int ((p1 &&& (65535 : Int32)).toUInt32.toUInt16.toUInt32.toInt32)), .val (.int (Int32.ofNat iv)), .val (.int (own_f1 ((p1 &&& (65535 : Int32)).toUInt32.toUInt16.toUInt32.toInt32))), .val (.int (1 : Int32)), .unset] [(.int (Int32.ofNat iv)), (.ref a5)])) rfl (by rw [hml]; rfl) (Steps.refl _) (argsL := [(.int (Int32.ofNat iv))]) (rest := []) (lenOf pd_5 rfl) rfl (by show 2 * 0 + _ ≤ _; exact Nat.le_of_eq rfl) (hb hby at_102) (fun _ _ => ⟨rfl, e19, (by decide : 4 + 0 ≤ _), (by decide : 136 + 0 ≤ _)⟩)
    dsimp only [Pt.U, Pt.locs, Pt.cells, Pt.slots] at X21 l21 y21 z21 st21 hQ21
    subst l21 y21 z21
    obtain ⟨rfl, N21q, e21⟩ := hQ21
    have N21 := Fr.app N19 N21q
    have pre21 : ∀ t, Steps p.tables e below (T21.setTop (mkF m 105 #[.val (.int p1), .val (.int p2), .val (.ref a1), .val (.ref a5), .val (.int ((p1 &&& (65535 : Int32)).toUInt32.toUInt16.toUInt32.toInt32)), .val (.int (Int32.ofNat iv)), .val (.int (own_f1 ((p1 &&& (65535 : Int32)).toUInt32.toUInt16.toUInt32.toInt32))), .val (.int (1 : Int32)), .unset] [(.int (own_cs8.getD iv 0))])) t → Steps p.tables e below (s₁.setTop (entryFrame m #[(.int p1), (.int p2)] maxLocals)) t := fun t kt => pre20 t (st21.trans kt)
    obtain ⟨_, _, ⟨T22, L22, k22, n22⟩, -, X22, ⟨Lc22, hQ22, l22, y22, z22⟩, st22⟩ := Jvm.LawKit.callS X21 hx (y := (⟨"com/example/nodearc/nodearc/io/NTriplesGrammar", "hexValue", "(C)I"⟩ : MethodName)) hown (mvT hZ (hw _ (List.mem_of_getElem? (i := 10) rfl))) (mvT hZ (hw _ (List.mem_of_getElem? (i := 11) rfl))) (mvT hZ (hw _ (List.mem_of_getElem? (i := 12) rfl))) (mvT hZ (hw _ (List.mem_of_getElem? (i := 13) rfl))) (by decide) (backOf (W := 0) (rm1 l Z a0 hw [] (own_cs8.getD iv 0) h5 n0) hZ (hw _ (List.mem_of_getElem? (i := 13) rfl)) (hw _ (List.mem_of_getElem? (i := 12) rfl)) (by decide) (by decide)) (g := (mkF m 105 #[.val (.int p1), .val (.int p2), .val (.ref a1), .val (.ref a5), .val (.int ((p1 &&& (65535 : Int32)).toUInt32.toUInt16.toUInt32.toInt32)), .val (.int (Int32.ofNat iv)), .val (.int (own_f1 ((p1 &&& (65535 : Int32)).toUInt32.toUInt16.toUInt32.toInt32))), .val (.int (1 : Int32)), .unset] [(.int (own_cs8.getD iv 0))])) rfl (by rw [hml]; rfl) (argsL := [(.int (own_cs8.getD iv 0))]) (rest := []) (lenOf pd_4 rfl) rfl (by show 2 * 0 + _ ≤ _; exact Nat.le_of_eq rfl) (hb hby at_105) (fun _ _ => ⟨rfl, e21, (by decide : 4 + 0 ≤ _), (by decide : 136 + 0 ≤ _)⟩)
    dsimp only [Pt.U, Pt.locs, Pt.cells, Pt.slots] at X22 l22 y22 z22 st22 hQ22
    subst l22 y22 z22
    obtain ⟨rfl, N22q, e22⟩ := hQ22
    have N22 := Fr.app N21 N22q
    have pre22 : ∀ t, Steps p.tables e below (T22.setTop (mkF m 108 #[.val (.int p1), .val (.int p2), .val (.ref a1), .val (.ref a5), .val (.int ((p1 &&& (65535 : Int32)).toUInt32.toUInt16.toUInt32.toInt32)), .val (.int (Int32.ofNat iv)), .val (.int (own_f1 ((p1 &&& (65535 : Int32)).toUInt32.toUInt16.toUInt32.toInt32))), .val (.int (1 : Int32)), .unset] [(.int (own_f1 (own_cs8.getD iv 0)))])) t → Steps p.tables e below (s₁.setTop (entryFrame m #[(.int p1), (.int p2)] maxLocals)) t := fun t kt => pre21 t (st22 _ kt)
    have pre23 : ∀ t, Steps p.tables e below (T22.setTop (mkF m 135 #[.val (.int p1), .val (.int p2), .val (.ref a1), .val (.ref a5), .val (.int ((p1 &&& (65535 : Int32)).toUInt32.toUInt16.toUInt32.toInt32)), .val (.int (Int32.ofNat iv)), .val (.int (own_f1 ((p1 &&& (65535 : Int32)).toUInt32.toUInt16.toUInt32.toInt32))), .val (.int (1 : Int32)), .val (.int (1 : Int32))] [(.int (1 : Int32))])) t → Steps p.tables e below (s₁.setTop (entryFrame m #[(.int p1), (.int p2)] maxLocals)) t := by
      intro t kt
      refine pre22 t ?_
      show Steps p.tables e below (T22.setTop (mkF m 108 #[.val (.int p1), .val (.int p2), .val (.ref a1), .val (.ref a5), .val (.int ((p1 &&& (65535 : Int32)).toUInt32.toUInt16.toUInt32.toInt32)), .val (.int (Int32.ofNat iv)), .val (.int (own_f1 ((p1 &&& (65535 : Int32)).toUInt32.toUInt16.toUInt32.toInt32))), .val (.int (1 : Int32)), .unset] [(.int (own_f1 (own_cs8.getD iv 0)))])) _
      refine XS.iload X22.here hx rfl (hb hby at_108) rfl ?_
      show Steps p.tables e below (T22.setTop (mkF m 110 #[.val (.int p1), .val (.int p2), .val (.ref a1), .val (.ref a5), .val (.int ((p1 &&& (65535 : Int32)).toUInt32.toUInt16.toUInt32.toInt32)), .val (.int (Int32.ofNat iv)), .val (.int (own_f1 ((p1 &&& (65535 : Int32)).toUInt32.toUInt16.toUInt32.toInt32))), .val (.int (1 : Int32)), .unset] [(.int (Int32.ofNat iv)), (.int (own_f1 (own_cs8.getD iv 0)))])) _
      refine XS.icmpNo X22.here hx rfl (hb hby at_110) rfl (teq (own_hi hiv)).2 ?_
      show Steps p.tables e below (T22.setTop (mkF m 113 #[.val (.int p1), .val (.int p2), .val (.ref a1), .val (.ref a5), .val (.int ((p1 &&& (65535 : Int32)).toUInt32.toUInt16.toUInt32.toInt32)), .val (.int (Int32.ofNat iv)), .val (.int (own_f1 ((p1 &&& (65535 : Int32)).toUInt32.toUInt16.toUInt32.toInt32))), .val (.int (1 : Int32)), .unset] [])) _
      refine XS.iconst X22.here hx rfl (hb hby at_113) ?_
      show Steps p.tables e below (T22.setTop (mkF m 114 #[.val (.int p1), .val (.int p2), .val (.ref a1), .val (.ref a5), .val (.int ((p1 &&& (65535 : Int32)).toUInt32.toUInt16.toUInt32.toInt32)), .val (.int (Int32.ofNat iv)), .val (.int (own_f1 ((p1 &&& (65535 : Int32)).toUInt32.toUInt16.toUInt32.toInt32))), .val (.int (1 : Int32)), .unset] [(.int (1 : Int32))])) _
      refine XS.goto X22.here hx rfl (pc0 := 114) (pc' := 118) rfl (hb hby at_114) (by decide) (by decide) ?_
      show Steps p.tables e below (T22.setTop (mkF m 118 #[.val (.int p1), .val (.int p2), .val (.ref a1), .val (.ref a5), .val (.int ((p1 &&& (65535 : Int32)).toUInt32.toUInt16.toUInt32.toInt32)), .val (.int (Int32.ofNat iv)), .val (.int (own_f1 ((p1 &&& (65535 : Int32)).toUInt32.toUInt16.toUInt32.toInt32))), .val (.int (1 : Int32)), .unset] [(.int (1 : Int32))])) _
      refine XS.istore X22.here hx rfl (hb hby at_118) rfl (l' := #[.val (.int p1), .val (.int p2), .val (.ref a1), .val (.ref a5), .val (.int ((p1 &&& (65535 : Int32)).toUInt32.toUInt16.toUInt32.toInt32)), .val (.int (Int32.ofNat iv)), .val (.int (own_f1 ((p1 &&& (65535 : Int32)).toUInt32.toUInt16.toUInt32.toInt32))), .val (.int (1 : Int32)), .val (.int (1 : Int32))]) rfl ?_
      show Steps p.tables e below (T22.setTop (mkF m 120 #[.val (.int p1), .val (.int p2), .val (.ref a1), .val (.ref a5), .val (.int ((p1 &&& (65535 : Int32)).toUInt32.toUInt16.toUInt32.toInt32)), .val (.int (Int32.ofNat iv)), .val (.int (own_f1 ((p1 &&& (65535 : Int32)).toUInt32.toUInt16.toUInt32.toInt32))), .val (.int (1 : Int32)), .val (.int (1 : Int32))] [])) _
      refine XS.iload X22.here hx rfl (hb hby at_120) rfl ?_
      show Steps p.tables e below (T22.setTop (mkF m 122 #[.val (.int p1), .val (.int p2), .val (.ref a1), .val (.ref a5), .val (.int ((p1 &&& (65535 : Int32)).toUInt32.toUInt16.toUInt32.toInt32)), .val (.int (Int32.ofNat iv)), .val (.int (own_f1 ((p1 &&& (65535 : Int32)).toUInt32.toUInt16.toUInt32.toInt32))), .val (.int (1 : Int32)), .val (.int (1 : Int32))] [(.int (1 : Int32))])) _
      refine XS.ifNo X22.here hx rfl (hb hby at_122) rfl ((if0 _ _).trans (feq (by decide)).1) ?_
      show Steps p.tables e below (T22.setTop (mkF m 125 #[.val (.int p1), .val (.int p2), .val (.ref a1), .val (.ref a5), .val (.int ((p1 &&& (65535 : Int32)).toUInt32.toUInt16.toUInt32.toInt32)), .val (.int (Int32.ofNat iv)), .val (.int (own_f1 ((p1 &&& (65535 : Int32)).toUInt32.toUInt16.toUInt32.toInt32))), .val (.int (1 : Int32)), .val (.int (1 : Int32))] [])) _
      refine XS.iload X22.here hx rfl (hb hby at_125) rfl ?_
      show Steps p.tables e below (T22.setTop (mkF m 127 #[.val (.int p1), .val (.int p2), .val (.ref a1), .val (.ref a5), .val (.int ((p1 &&& (65535 : Int32)).toUInt32.toUInt16.toUInt32.toInt32)), .val (.int (Int32.ofNat iv)), .val (.int (own_f1 ((p1 &&& (65535 : Int32)).toUInt32.toUInt16.toUInt32.toInt32))), .val (.int (1 : Int32)), .val (.int (1 : Int32))] [(.int (1 : Int32))])) _
      refine XS.ifNo X22.here hx rfl (hb hby at_127) rfl ((if0 _ _).trans (feq (by decide)).1) ?_
      show Steps p.tables e below (T22.setTop (mkF m 130 #[.val (.int p1), .val (.int p2), .val (.ref a1), .val (.ref a5), .val (.int ((p1 &&& (65535 : Int32)).toUInt32.toUInt16.toUInt32.toInt32)), .val (.int (Int32.ofNat iv)), .val (.int (own_f1 ((p1 &&& (65535 : Int32)).toUInt32.toUInt16.toUInt32.toInt32))), .val (.int (1 : Int32)), .val (.int (1 : Int32))] [])) _
      refine XS.iconst X22.here hx rfl (hb hby at_130) ?_
      show Steps p.tables e below (T22.setTop (mkF m 131 #[.val (.int p1), .val (.int p2), .val (.ref a1), .val (.ref a5), .val (.int ((p1 &&& (65535 : Int32)).toUInt32.toUInt16.toUInt32.toInt32)), .val (.int (Int32.ofNat iv)), .val (.int (own_f1 ((p1 &&& (65535 : Int32)).toUInt32.toUInt16.toUInt32.toInt32))), .val (.int (1 : Int32)), .val (.int (1 : Int32))] [(.int (1 : Int32))])) _
      refine XS.goto X22.here hx rfl (pc0 := 131) (pc' := 135) rfl (hb hby at_131) (by decide) (by decide) ?_
      exact kt
    obtain ⟨fs, hr, hrun, hended, hEnd⟩ := X22.leaveW (s := s) (vm₁ := T5.vm) hS5 (by rw [e22]; exact hk5) (v := some (.int (1 : Int32))) (fun h => by rw [Bd.returns] at h; cases h)
    refine ⟨_, _, pre23 _ ?_, hrun, hended, _, _, rfl, ?_, hEnd.1, hEnd.2.1, hEnd.2.2.1, hEnd.2.2.2.mono (by decide) (by decide)⟩
    · show Steps p.tables e below (T22.setTop (mkF m 135 #[.val (.int p1), .val (.int p2), .val (.ref a1), .val (.ref a5), .val (.int ((p1 &&& (65535 : Int32)).toUInt32.toUInt16.toUInt32.toInt32)), .val (.int (Int32.ofNat iv)), .val (.int (own_f1 ((p1 &&& (65535 : Int32)).toUInt32.toUInt16.toUInt32.toInt32))), .val (.int (1 : Int32)), .val (.int (1 : Int32))] [(.int (1 : Int32))])) _
      exact retN X22 hx (t := .boolean) Bd.returns (by simp) (hb hby at_135) hr
    · show Q0 n0 _ T22.heap _
      rw [e22]
      exact ⟨rfl, N22⟩
  · have pre24 : ∀ t, Steps p.tables e below (T14.setTop (mkF m 38 #[.val (.int p1), .val (.int p2), .val (.ref a1), .val (.ref a5), .val (.int ((p1 &&& (65535 : Int32)).toUInt32.toUInt16.toUInt32.toInt32)), .val (.int (Int32.ofNat iv)), .val (.int (own_f1 ((p1 &&& (65535 : Int32)).toUInt32.toUInt16.toUInt32.toInt32))), .unset, .unset] [])) t → Steps p.tables e below (s₁.setTop (entryFrame m #[(.int p1), (.int p2)] maxLocals)) t := by
      intro t kt
      refine pre15 t ?_
      show Steps p.tables e below (T14.setTop (mkF m 29 #[.val (.int p1), .val (.int p2), .val (.ref a1), .val (.ref a5), .val (.int ((p1 &&& (65535 : Int32)).toUInt32.toUInt16.toUInt32.toInt32)), .val (.int (Int32.ofNat iv)), .val (.int (own_f1 ((p1 &&& (65535 : Int32)).toUInt32.toUInt16.toUInt32.toInt32))), .unset, .unset] [(.int (-1 : Int32)), (.int (own_f1 ((p1 &&& (65535 : Int32)).toUInt32.toUInt16.toUInt32.toInt32)))])) _
      refine XS.icmpYes X14.here hx rfl (pc0 := 29) (pc' := 38) rfl (hb hby at_29) rfl (feq hc29).2 (by decide) (by decide) ?_
      exact kt
    have pre25 : ∀ t, Steps p.tables e below (T14.setTop (mkF m 50 #[.val (.int p1), .val (.int p2), .val (.ref a1), .val (.ref a5), .val (.int ((p1 &&& (65535 : Int32)).toUInt32.toUInt16.toUInt32.toInt32)), .val (.int (Int32.ofNat iv)), .val (.int (own_f1 ((p1 &&& (65535 : Int32)).toUInt32.toUInt16.toUInt32.toInt32))), .unset, .unset] [])) t → Steps p.tables e below (s₁.setTop (entryFrame m #[(.int p1), (.int p2)] maxLocals)) t := by
      intro t kt
      refine pre24 t ?_
      show Steps p.tables e below (T14.setTop (mkF m 38 #[.val (.int p1), .val (.int p2), .val (.ref a1), .val (.ref a5), .val (.int ((p1 &&& (65535 : Int32)).toUInt32.toUInt16.toUInt32.toInt32)), .val (.int (Int32.ofNat iv)), .val (.int (own_f1 ((p1 &&& (65535 : Int32)).toUInt32.toUInt16.toUInt32.toInt32))), .unset, .unset] [])) _
      refine XS.iload X14.here hx rfl (hb hby at_38) rfl ?_
      show Steps p.tables e below (T14.setTop (mkF m 40 #[.val (.int p1), .val (.int p2), .val (.ref a1), .val (.ref a5), .val (.int ((p1 &&& (65535 : Int32)).toUInt32.toUInt16.toUInt32.toInt32)), .val (.int (Int32.ofNat iv)), .val (.int (own_f1 ((p1 &&& (65535 : Int32)).toUInt32.toUInt16.toUInt32.toInt32))), .unset, .unset] [(.int (own_f1 ((p1 &&& (65535 : Int32)).toUInt32.toUInt16.toUInt32.toInt32)))])) _
      refine XS.ifNo X14.here hx rfl (hb hby at_40) rfl ((if0 _ _).trans (flt (own_d1 _ hc29)).1) ?_
      show Steps p.tables e below (T14.setTop (mkF m 43 #[.val (.int p1), .val (.int p2), .val (.ref a1), .val (.ref a5), .val (.int ((p1 &&& (65535 : Int32)).toUInt32.toUInt16.toUInt32.toInt32)), .val (.int (Int32.ofNat iv)), .val (.int (own_f1 ((p1 &&& (65535 : Int32)).toUInt32.toUInt16.toUInt32.toInt32))), .unset, .unset] [])) _
      refine XS.iload X14.here hx rfl (hb hby at_43) rfl ?_
      show Steps p.tables e below (T14.setTop (mkF m 45 #[.val (.int p1), .val (.int p2), .val (.ref a1), .val (.ref a5), .val (.int ((p1 &&& (65535 : Int32)).toUInt32.toUInt16.toUInt32.toInt32)), .val (.int (Int32.ofNat iv)), .val (.int (own_f1 ((p1 &&& (65535 : Int32)).toUInt32.toUInt16.toUInt32.toInt32))), .unset, .unset] [(.int (own_f1 ((p1 &&& (65535 : Int32)).toUInt32.toUInt16.toUInt32.toInt32)))])) _
      refine XS.bipush X14.here hx rfl (hb hby at_45) ?_
      show Steps p.tables e below (T14.setTop (mkF m 47 #[.val (.int p1), .val (.int p2), .val (.ref a1), .val (.ref a5), .val (.int ((p1 &&& (65535 : Int32)).toUInt32.toUInt16.toUInt32.toInt32)), .val (.int (Int32.ofNat iv)), .val (.int (own_f1 ((p1 &&& (65535 : Int32)).toUInt32.toUInt16.toUInt32.toInt32))), .unset, .unset] [(.int (15 : Int32)), (.int (own_f1 ((p1 &&& (65535 : Int32)).toUInt32.toUInt16.toUInt32.toInt32)))])) _
      refine XS.icmpNo X14.here hx rfl (hb hby at_47) rfl (flt (own_d2 _ hc29)).2.2.1 ?_
      exact kt
    obtain ⟨ir, hir, er⟩ := own_digit ((p1 &&& (65535 : Int32)).toUInt32.toUInt16.toUInt32.toInt32) hc29
    rw [er] at pre25
    have pre26 : ∀ t, Steps p.tables e below (T14.setTop (mkF m 55 #[.val (.int p1), .val (.int p2), .val (.ref a1), .val (.ref a5), .val (.int ((p1 &&& (65535 : Int32)).toUInt32.toUInt16.toUInt32.toInt32)), .val (.int (Int32.ofNat iv)), .val (.int (Int32.ofNat ir)), .unset, .unset] [(.int (Int32.ofNat ir)), (.ref a1), (.int ((p1 &&& (65535 : Int32)).toUInt32.toUInt16.toUInt32.toInt32))])) t → Steps p.tables e below (s₁.setTop (entryFrame m #[(.int p1), (.int p2)] maxLocals)) t := by
      intro t kt
      refine pre25 t ?_
      show Steps p.tables e below (T14.setTop (mkF m 50 #[.val (.int p1), .val (.int p2), .val (.ref a1), .val (.ref a5), .val (.int ((p1 &&& (65535 : Int32)).toUInt32.toUInt16.toUInt32.toInt32)), .val (.int (Int32.ofNat iv)), .val (.int (Int32.ofNat ir)), .unset, .unset] [])) _
      refine XS.iload X14.here hx rfl (hb hby at_50) rfl ?_
      show Steps p.tables e below (T14.setTop (mkF m 52 #[.val (.int p1), .val (.int p2), .val (.ref a1), .val (.ref a5), .val (.int ((p1 &&& (65535 : Int32)).toUInt32.toUInt16.toUInt32.toInt32)), .val (.int (Int32.ofNat iv)), .val (.int (Int32.ofNat ir)), .unset, .unset] [(.int ((p1 &&& (65535 : Int32)).toUInt32.toUInt16.toUInt32.toInt32))])) _
      refine XS.aloadN X14.here hx rfl (hb hby at_52) rfl rfl ?_
      show Steps p.tables e below (T14.setTop (mkF m 53 #[.val (.int p1), .val (.int p2), .val (.ref a1), .val (.ref a5), .val (.int ((p1 &&& (65535 : Int32)).toUInt32.toUInt16.toUInt32.toInt32)), .val (.int (Int32.ofNat iv)), .val (.int (Int32.ofNat ir)), .unset, .unset] [(.ref a1), (.int ((p1 &&& (65535 : Int32)).toUInt32.toUInt16.toUInt32.toInt32))])) _
      refine XS.iload X14.here hx rfl (hb hby at_53) rfl ?_
      exact kt
    obtain ⟨cq27, kq27, q27a, q27b, q27c⟩ := isOf hZ e14 A1_8
    obtain ⟨_, _, ⟨T27, L27, k27, n27⟩, -, X27, ⟨Lc27, hQ27, l27, y27, z27⟩, st27⟩ := X14.virtualBack hx (y := (⟨"java/lang/String", "charAt", "(I)C"⟩ : MethodName)) (z := (⟨"java/lang/String", "charAt", "(I)C"⟩ : MethodName)) hown (mvT hZ (hw _ (List.mem_of_getElem? (i := 14) rfl))) (mvT hZ (hw _ (List.mem_of_getElem? (i := 15) rfl))) (notFace_of_selects (args := #[]) (mvT hZ (hw _ (List.mem_of_getElem? (i := 17) rfl)))) (mvT hZ (hw _ (List.mem_of_getElem? (i := 17) rfl))) (mvT hZ (hw _ (List.mem_of_getElem? (i := 16) rfl))) (by decide) (backOf (W := 1) (rm2 l Z a0 hw [] a1 (Int32.ofNat ir) b1 kb1 own_cs0 (16 : Int32) ir cz fm h5 n0 Z5 A1_8 F1_10 C1_9 V1_11 SCS_6 SFM_7 (hCS) (hFM) (own_hl0) (own_hi0 hir) (rfl) (own_hc0)) hZ (hw _ (List.mem_of_getElem? (i := 18) rfl)) (hw _ (List.mem_of_getElem? (i := 1) rfl)) (by decide) (by decide)) q27a q27c (g := (mkF m 55 #[.val (.int p1), .val (.int p2), .val (.ref a1), .val (.ref a5), .val (.int ((p1 &&& (65535 : Int32)).toUInt32.toUInt16.toUInt32.toInt32)), .val (.int (Int32.ofNat iv)), .val (.int (Int32.ofNat ir)), .unset, .unset] [(.int (Int32.ofNat ir)), (.ref a1), (.int ((p1 &&& (65535 : Int32)).toUInt32.toUInt16.toUInt32.toInt32))])) rfl (by rw [hml]; rfl) (Steps.refl _) (argsL := [(.int (Int32.ofNat ir))]) (rest := [(.int ((p1 &&& (65535 : Int32)).toUInt32.toUInt16.toUInt32.toInt32))]) (lenOf pd_5 rfl) rfl (by show 2 * 0 + _ ≤ _; exact Nat.le_of_eq rfl) (hb hby at_55) (fun _ _ => ⟨rfl, e14, (by decide : 4 + 0 ≤ _), (by decide : 136 + 0 ≤ _)⟩)
    dsimp only [Pt.U, Pt.locs, Pt.cells, Pt.slots] at X27 l27 y27 z27 st27 hQ27
    subst l27 y27 z27
    obtain ⟨rfl, N27q, e27⟩ := hQ27
    have N27 := Fr.app N14 N27q
    have pre27 : ∀ t, Steps p.tables e below (T27.setTop (mkF m 58 #[.val (.int p1), .val (.int p2), .val (.ref a1), .val (.ref a5), .val (.int ((p1 &&& (65535 : Int32)).toUInt32.toUInt16.toUInt32.toInt32)), .val (.int (Int32.ofNat iv)), .val (.int (Int32.ofNat ir)), .unset, .unset] [(.int (own_cs0.getD ir 0)), (.int ((p1 &&& (65535 : Int32)).toUInt32.toUInt16.toUInt32.toInt32))])) t → Steps p.tables e below (s₁.setTop (entryFrame m #[(.int p1), (.int p2)] maxLocals)) t := fun t kt => pre26 t (st27.trans kt)
    by_cases hc58 : ((p1 &&& (65535 : Int32)).toUInt32.toUInt16.toUInt32.toInt32) = (own_cs0.getD ir 0)
    · have pre28 : ∀ t, Steps p.tables e below (T27.setTop (mkF m 72 #[.val (.int p1), .val (.int p2), .val (.ref a1), .val (.ref a5), .val (.int ((p1 &&& (65535 : Int32)).toUInt32.toUInt16.toUInt32.toInt32)), .val (.int (Int32.ofNat iv)), .val (.int (Int32.ofNat ir)), .unset, .unset] [])) t → Steps p.tables e below (s₁.setTop (entryFrame m #[(.int p1), (.int p2)] maxLocals)) t := by
        intro t kt
        refine pre27 t ?_
        show Steps p.tables e below (T27.setTop (mkF m 58 #[.val (.int p1), .val (.int p2), .val (.ref a1), .val (.ref a5), .val (.int ((p1 &&& (65535 : Int32)).toUInt32.toUInt16.toUInt32.toInt32)), .val (.int (Int32.ofNat iv)), .val (.int (Int32.ofNat ir)), .unset, .unset] [(.int (own_cs0.getD ir 0)), (.int ((p1 &&& (65535 : Int32)).toUInt32.toUInt16.toUInt32.toInt32))])) _
        refine XS.icmpYes X27.here hx rfl (pc0 := 58) (pc' := 72) rfl (hb hby at_58) rfl (teq hc58).1 (by decide) (by decide) ?_
        exact kt
      have pre29 : ∀ t, Steps p.tables e below (T27.setTop (mkF m 88 #[.val (.int p1), .val (.int p2), .val (.ref a1), .val (.ref a5), .val (.int ((p1 &&& (65535 : Int32)).toUInt32.toUInt16.toUInt32.toInt32)), .val (.int (Int32.ofNat iv)), .val (.int (Int32.ofNat ir)), .val (.int (1 : Int32)), .unset] [(.int (Int32.ofNat iv)), (.ref a1)])) t → Steps p.tables e below (s₁.setTop (entryFrame m #[(.int p1), (.int p2)] maxLocals)) t := by
        intro t kt
        refine pre28 t ?_
        show Steps p.tables e below (T27.setTop (mkF m 72 #[.val (.int p1), .val (.int p2), .val (.ref a1), .val (.ref a5), .val (.int ((p1 &&& (65535 : Int32)).toUInt32.toUInt16.toUInt32.toInt32)), .val (.int (Int32.ofNat iv)), .val (.int (Int32.ofNat ir)), .unset, .unset] [])) _
        refine XS.iconst X27.here hx rfl (hb hby at_72) ?_
        show Steps p.tables e below (T27.setTop (mkF m 73 #[.val (.int p1), .val (.int p2), .val (.ref a1), .val (.ref a5), .val (.int ((p1 &&& (65535 : Int32)).toUInt32.toUInt16.toUInt32.toInt32)), .val (.int (Int32.ofNat iv)), .val (.int (Int32.ofNat ir)), .unset, .unset] [(.int (1 : Int32))])) _
        refine XS.goto X27.here hx rfl (pc0 := 73) (pc' := 77) rfl (hb hby at_73) (by decide) (by decide) ?_
        show Steps p.tables e below (T27.setTop (mkF m 77 #[.val (.int p1), .val (.int p2), .val (.ref a1), .val (.ref a5), .val (.int ((p1 &&& (65535 : Int32)).toUInt32.toUInt16.toUInt32.toInt32)), .val (.int (Int32.ofNat iv)), .val (.int (Int32.ofNat ir)), .unset, .unset] [(.int (1 : Int32))])) _
        refine XS.istore X27.here hx rfl (hb hby at_77) rfl (l' := #[.val (.int p1), .val (.int p2), .val (.ref a1), .val (.ref a5), .val (.int ((p1 &&& (65535 : Int32)).toUInt32.toUInt16.toUInt32.toInt32)), .val (.int (Int32.ofNat iv)), .val (.int (Int32.ofNat ir)), .val (.int (1 : Int32)), .unset]) rfl ?_
        show Steps p.tables e below (T27.setTop (mkF m 79 #[.val (.int p1), .val (.int p2), .val (.ref a1), .val (.ref a5), .val (.int ((p1 &&& (65535 : Int32)).toUInt32.toUInt16.toUInt32.toInt32)), .val (.int (Int32.ofNat iv)), .val (.int (Int32.ofNat ir)), .val (.int (1 : Int32)), .unset] [])) _
        refine XS.goto X27.here hx rfl (pc0 := 79) (pc' := 85) rfl (hb hby at_79) (by decide) (by decide) ?_
        show Steps p.tables e below (T27.setTop (mkF m 85 #[.val (.int p1), .val (.int p2), .val (.ref a1), .val (.ref a5), .val (.int ((p1 &&& (65535 : Int32)).toUInt32.toUInt16.toUInt32.toInt32)), .val (.int (Int32.ofNat iv)), .val (.int (Int32.ofNat ir)), .val (.int (1 : Int32)), .unset] [])) _
        refine XS.aloadN X27.here hx rfl (hb hby at_85) rfl rfl ?_
        show Steps p.tables e below (T27.setTop (mkF m 86 #[.val (.int p1), .val (.int p2), .val (.ref a1), .val (.ref a5), .val (.int ((p1 &&& (65535 : Int32)).toUInt32.toUInt16.toUInt32.toInt32)), .val (.int (Int32.ofNat iv)), .val (.int (Int32.ofNat ir)), .val (.int (1 : Int32)), .unset] [(.ref a1)])) _
        refine XS.iload X27.here hx rfl (hb hby at_86) rfl ?_
        exact kt
      obtain ⟨cq30, kq30, q30a, q30b, q30c⟩ := isOf hZ e27 A1_8
      obtain ⟨_, _, ⟨T30, L30, k30, n30⟩, -, X30, ⟨Lc30, hQ30, l30, y30, z30⟩, st30⟩ := X27.virtualBack hx (y := (⟨"java/lang/String", "charAt", "(I)C"⟩ : MethodName)) (z := (⟨"java/lang/String", "charAt", "(I)C"⟩ : MethodName)) hown (mvT hZ (hw _ (List.mem_of_getElem? (i := 14) rfl))) (mvT hZ (hw _ (List.mem_of_getElem? (i := 15) rfl))) (notFace_of_selects (args := #[]) (mvT hZ (hw _ (List.mem_of_getElem? (i := 17) rfl)))) (mvT hZ (hw _ (List.mem_of_getElem? (i := 17) rfl))) (mvT hZ (hw _ (List.mem_of_getElem? (i := 16) rfl))) (by decide) (backOf (W := 0) (rm2 l Z a0 hw [] a1 (Int32.ofNat iv) b1 kb1 own_cs0 (16 : Int32) iv cz fm h5 n0 Z5 A1_8 F1_10 C1_9 V1_11 SCS_6 SFM_7 (hCS) (hFM) (own_hl0) (own_hi0 hiv) (rfl) (own_hc0)) hZ (hw _ (List.mem_of_getElem? (i := 18) rfl)) (hw _ (List.mem_of_getElem? (i := 1) rfl)) (by decide) (by decide)) q30a q30c (g := (mkF m 88 #[.val (.int p1), .val (.int p2), .val (.ref a1), .val (.ref a5), .val (.int ((p1 &&& (65535 : Int32)).toUInt32.toUInt16.toUInt32.toInt32)), .val (.int (Int32.ofNat iv)), .val (.int (Int32.ofNat ir)), .val (.int (1 : Int32)), .unset] [(.int (Int32.ofNat iv)), (.ref a1)])) rfl (by rw [hml]; rfl) (Steps.refl _) (argsL := [(.int (Int32.ofNat iv))]) (rest := []) (lenOf pd_5 rfl) rfl (by show 2 * 0 + _ ≤ _; exact Nat.le_of_eq rfl) (hb hby at_88) (fun _ _ => ⟨rfl, e27, (by decide : 4 + 0 ≤ _), (by decide : 136 + 0 ≤ _)⟩)
      dsimp only [Pt.U, Pt.locs, Pt.cells, Pt.slots] at X30 l30 y30 z30 st30 hQ30
      subst l30 y30 z30
      obtain ⟨rfl, N30q, e30⟩ := hQ30
      have N30 := Fr.app N27 N30q
      have pre30 : ∀ t, Steps p.tables e below (T30.setTop (mkF m 91 #[.val (.int p1), .val (.int p2), .val (.ref a1), .val (.ref a5), .val (.int ((p1 &&& (65535 : Int32)).toUInt32.toUInt16.toUInt32.toInt32)), .val (.int (Int32.ofNat iv)), .val (.int (Int32.ofNat ir)), .val (.int (1 : Int32)), .unset] [(.int (own_cs0.getD iv 0))])) t → Steps p.tables e below (s₁.setTop (entryFrame m #[(.int p1), (.int p2)] maxLocals)) t := fun t kt => pre29 t (st30.trans kt)
      obtain ⟨_, _, ⟨T31, L31, k31, n31⟩, -, X31, ⟨Lc31, hQ31, l31, y31, z31⟩, st31⟩ := Jvm.LawKit.callS X30 hx (y := (⟨"com/example/nodearc/nodearc/io/NTriplesGrammar", "hexValue", "(C)I"⟩ : MethodName)) hown (mvT hZ (hw _ (List.mem_of_getElem? (i := 10) rfl))) (mvT hZ (hw _ (List.mem_of_getElem? (i := 11) rfl))) (mvT hZ (hw _ (List.mem_of_getElem? (i := 12) rfl))) (mvT hZ (hw _ (List.mem_of_getElem? (i := 13) rfl))) (by decide) (backOf (W := 0) (rm1 l Z a0 hw [] (own_cs0.getD iv 0) h5 n0) hZ (hw _ (List.mem_of_getElem? (i := 13) rfl)) (hw _ (List.mem_of_getElem? (i := 12) rfl)) (by decide) (by decide)) (g := (mkF m 91 #[.val (.int p1), .val (.int p2), .val (.ref a1), .val (.ref a5), .val (.int ((p1 &&& (65535 : Int32)).toUInt32.toUInt16.toUInt32.toInt32)), .val (.int (Int32.ofNat iv)), .val (.int (Int32.ofNat ir)), .val (.int (1 : Int32)), .unset] [(.int (own_cs0.getD iv 0))])) rfl (by rw [hml]; rfl) (argsL := [(.int (own_cs0.getD iv 0))]) (rest := []) (lenOf pd_4 rfl) rfl (by show 2 * 0 + _ ≤ _; exact Nat.le_of_eq rfl) (hb hby at_91) (fun _ _ => ⟨rfl, e30, (by decide : 4 + 0 ≤ _), (by decide : 136 + 0 ≤ _)⟩)
      dsimp only [Pt.U, Pt.locs, Pt.cells, Pt.slots] at X31 l31 y31 z31 st31 hQ31
      subst l31 y31 z31
      obtain ⟨rfl, N31q, e31⟩ := hQ31
      have N31 := Fr.app N30 N31q
      have pre31 : ∀ t, Steps p.tables e below (T31.setTop (mkF m 94 #[.val (.int p1), .val (.int p2), .val (.ref a1), .val (.ref a5), .val (.int ((p1 &&& (65535 : Int32)).toUInt32.toUInt16.toUInt32.toInt32)), .val (.int (Int32.ofNat iv)), .val (.int (Int32.ofNat ir)), .val (.int (1 : Int32)), .unset] [(.int (own_f1 (own_cs0.getD iv 0)))])) t → Steps p.tables e below (s₁.setTop (entryFrame m #[(.int p1), (.int p2)] maxLocals)) t := fun t kt => pre30 t (st31 _ kt)
      have pre32 : ∀ t, Steps p.tables e below (T31.setTop (mkF m 102 #[.val (.int p1), .val (.int p2), .val (.ref a1), .val (.ref a5), .val (.int ((p1 &&& (65535 : Int32)).toUInt32.toUInt16.toUInt32.toInt32)), .val (.int (Int32.ofNat iv)), .val (.int (Int32.ofNat ir)), .val (.int (1 : Int32)), .unset] [(.int (Int32.ofNat iv)), (.ref a5)])) t → Steps p.tables e below (s₁.setTop (entryFrame m #[(.int p1), (.int p2)] maxLocals)) t := by
        intro t kt
        refine pre31 t ?_
        show Steps p.tables e below (T31.setTop (mkF m 94 #[.val (.int p1), .val (.int p2), .val (.ref a1), .val (.ref a5), .val (.int ((p1 &&& (65535 : Int32)).toUInt32.toUInt16.toUInt32.toInt32)), .val (.int (Int32.ofNat iv)), .val (.int (Int32.ofNat ir)), .val (.int (1 : Int32)), .unset] [(.int (own_f1 (own_cs0.getD iv 0)))])) _
        refine XS.iload X31.here hx rfl (hb hby at_94) rfl ?_
        show Steps p.tables e below (T31.setTop (mkF m 96 #[.val (.int p1), .val (.int p2), .val (.ref a1), .val (.ref a5), .val (.int ((p1 &&& (65535 : Int32)).toUInt32.toUInt16.toUInt32.toInt32)), .val (.int (Int32.ofNat iv)), .val (.int (Int32.ofNat ir)), .val (.int (1 : Int32)), .unset] [(.int (Int32.ofNat iv)), (.int (own_f1 (own_cs0.getD iv 0)))])) _
        refine XS.icmpNo X31.here hx rfl (hb hby at_96) rfl (teq (own_lo hiv)).2 ?_
        show Steps p.tables e below (T31.setTop (mkF m 99 #[.val (.int p1), .val (.int p2), .val (.ref a1), .val (.ref a5), .val (.int ((p1 &&& (65535 : Int32)).toUInt32.toUInt16.toUInt32.toInt32)), .val (.int (Int32.ofNat iv)), .val (.int (Int32.ofNat ir)), .val (.int (1 : Int32)), .unset] [])) _
        refine XS.aloadN X31.here hx rfl (hb hby at_99) rfl rfl ?_
        show Steps p.tables e below (T31.setTop (mkF m 100 #[.val (.int p1), .val (.int p2), .val (.ref a1), .val (.ref a5), .val (.int ((p1 &&& (65535 : Int32)).toUInt32.toUInt16.toUInt32.toInt32)), .val (.int (Int32.ofNat iv)), .val (.int (Int32.ofNat ir)), .val (.int (1 : Int32)), .unset] [(.ref a5)])) _
        refine XS.iload X31.here hx rfl (hb hby at_100) rfl ?_
        exact kt
      obtain ⟨cq33, kq33, q33a, q33b, q33c⟩ := isOf hZ e31 A5
      obtain ⟨_, _, ⟨T33, L33, k33, n33⟩, -, X33, ⟨Lc33, hQ33, l33, y33, z33⟩, st33⟩ := X31.virtualBack hx (y := (⟨"java/lang/String", "charAt", "(I)C"⟩ : MethodName)) (z := (⟨"java/lang/String", "charAt", "(I)C"⟩ : MethodName)) hown (mvT hZ (hw _ (List.mem_of_getElem? (i := 14) rfl))) (mvT hZ (hw _ (List.mem_of_getElem? (i := 15) rfl))) (notFace_of_selects (args := #[]) (mvT hZ (hw _ (List.mem_of_getElem? (i := 17) rfl)))) (mvT hZ (hw _ (List.mem_of_getElem? (i := 17) rfl))) (mvT hZ (hw _ (List.mem_of_getElem? (i := 16) rfl))) (by decide) (backOf (W := 0) (rm2 l Z a0 hw [] a5 (Int32.ofNat iv) b5 kb5 own_cs8 (16 : Int32) iv cz fm h5 n0 Z5 A5 F5 C5 V5 SCS_6 SFM_7 (hCS) (hFM) (own_hl8) (own_hi8 hiv) (rfl) (own_hc8)) hZ (hw _ (List.mem_of_getElem? (i := 18) rfl)) (hw _ (List.mem_of_getElem? (i := 1) rfl)) (by decide) (by decide)) q33a q33c (g := (mkF m 102 #[.val (.int p1), .val (.int p2), .val (.ref a1), .val (.ref a5), .val (.int ((p1 &&& (65535 : Int32)).toUInt32.toUInt16.toUInt32.toInt32)), .val (.int (Int32.ofNat iv)), .val (.int (Int32.ofNat ir)), .val (.int (1 : Int32)), .unset] [(.int (Int32.ofNat iv)), (.ref a5)])) rfl (by rw [hml]; rfl) (Steps.refl _) (argsL := [(.int (Int32.ofNat iv))]) (rest := []) (lenOf pd_5 rfl) rfl (by show 2 * 0 + _ ≤ _; exact Nat.le_of_eq rfl) (hb hby at_102) (fun _ _ => ⟨rfl, e31, (by decide : 4 + 0 ≤ _), (by decide : 136 + 0 ≤ _)⟩)
      dsimp only [Pt.U, Pt.locs, Pt.cells, Pt.slots] at X33 l33 y33 z33 st33 hQ33
      subst l33 y33 z33
      obtain ⟨rfl, N33q, e33⟩ := hQ33
      have N33 := Fr.app N31 N33q
      have pre33 : ∀ t, Steps p.tables e below (T33.setTop (mkF m 105 #[.val (.int p1), .val (.int p2), .val (.ref a1), .val (.ref a5), .val (.int ((p1 &&& (65535 : Int32)).toUInt32.toUInt16.toUInt32.toInt32)), .val (.int (Int32.ofNat iv)), .val (.int (Int32.ofNat ir)), .val (.int (1 : Int32)), .unset] [(.int (own_cs8.getD iv 0))])) t → Steps p.tables e below (s₁.setTop (entryFrame m #[(.int p1), (.int p2)] maxLocals)) t := fun t kt => pre32 t (st33.trans kt)
      obtain ⟨_, _, ⟨T34, L34, k34, n34⟩, -, X34, ⟨Lc34, hQ34, l34, y34, z34⟩, st34⟩ := Jvm.LawKit.callS X33 hx (y := (⟨"com/example/nodearc/nodearc/io/NTriplesGrammar", "hexValue", "(C)I"⟩ : MethodName)) hown (mvT hZ (hw _ (List.mem_of_getElem? (i := 10) rfl))) (mvT hZ (hw _ (List.mem_of_getElem? (i := 11) rfl))) (mvT hZ (hw _ (List.mem_of_getElem? (i := 12) rfl))) (mvT hZ (hw _ (List.mem_of_getElem? (i := 13) rfl))) (by decide) (backOf (W := 0) (rm1 l Z a0 hw [] (own_cs8.getD iv 0) h5 n0) hZ (hw _ (List.mem_of_getElem? (i := 13) rfl)) (hw _ (List.mem_of_getElem? (i := 12) rfl)) (by decide) (by decide)) (g := (mkF m 105 #[.val (.int p1), .val (.int p2), .val (.ref a1), .val (.ref a5), .val (.int ((p1 &&& (65535 : Int32)).toUInt32.toUInt16.toUInt32.toInt32)), .val (.int (Int32.ofNat iv)), .val (.int (Int32.ofNat ir)), .val (.int (1 : Int32)), .unset] [(.int (own_cs8.getD iv 0))])) rfl (by rw [hml]; rfl) (argsL := [(.int (own_cs8.getD iv 0))]) (rest := []) (lenOf pd_4 rfl) rfl (by show 2 * 0 + _ ≤ _; exact Nat.le_of_eq rfl) (hb hby at_105) (fun _ _ => ⟨rfl, e33, (by decide : 4 + 0 ≤ _), (by decide : 136 + 0 ≤ _)⟩)
      dsimp only [Pt.U, Pt.locs, Pt.cells, Pt.slots] at X34 l34 y34 z34 st34 hQ34
      subst l34 y34 z34
      obtain ⟨rfl, N34q, e34⟩ := hQ34
      have N34 := Fr.app N33 N34q
      have pre34 : ∀ t, Steps p.tables e below (T34.setTop (mkF m 108 #[.val (.int p1), .val (.int p2), .val (.ref a1), .val (.ref a5), .val (.int ((p1 &&& (65535 : Int32)).toUInt32.toUInt16.toUInt32.toInt32)), .val (.int (Int32.ofNat iv)), .val (.int (Int32.ofNat ir)), .val (.int (1 : Int32)), .unset] [(.int (own_f1 (own_cs8.getD iv 0)))])) t → Steps p.tables e below (s₁.setTop (entryFrame m #[(.int p1), (.int p2)] maxLocals)) t := fun t kt => pre33 t (st34 _ kt)
      have pre35 : ∀ t, Steps p.tables e below (T34.setTop (mkF m 135 #[.val (.int p1), .val (.int p2), .val (.ref a1), .val (.ref a5), .val (.int ((p1 &&& (65535 : Int32)).toUInt32.toUInt16.toUInt32.toInt32)), .val (.int (Int32.ofNat iv)), .val (.int (Int32.ofNat ir)), .val (.int (1 : Int32)), .val (.int (1 : Int32))] [(.int (1 : Int32))])) t → Steps p.tables e below (s₁.setTop (entryFrame m #[(.int p1), (.int p2)] maxLocals)) t := by
        intro t kt
        refine pre34 t ?_
        show Steps p.tables e below (T34.setTop (mkF m 108 #[.val (.int p1), .val (.int p2), .val (.ref a1), .val (.ref a5), .val (.int ((p1 &&& (65535 : Int32)).toUInt32.toUInt16.toUInt32.toInt32)), .val (.int (Int32.ofNat iv)), .val (.int (Int32.ofNat ir)), .val (.int (1 : Int32)), .unset] [(.int (own_f1 (own_cs8.getD iv 0)))])) _
        refine XS.iload X34.here hx rfl (hb hby at_108) rfl ?_
        show Steps p.tables e below (T34.setTop (mkF m 110 #[.val (.int p1), .val (.int p2), .val (.ref a1), .val (.ref a5), .val (.int ((p1 &&& (65535 : Int32)).toUInt32.toUInt16.toUInt32.toInt32)), .val (.int (Int32.ofNat iv)), .val (.int (Int32.ofNat ir)), .val (.int (1 : Int32)), .unset] [(.int (Int32.ofNat iv)), (.int (own_f1 (own_cs8.getD iv 0)))])) _
        refine XS.icmpNo X34.here hx rfl (hb hby at_110) rfl (teq (own_hi hiv)).2 ?_
        show Steps p.tables e below (T34.setTop (mkF m 113 #[.val (.int p1), .val (.int p2), .val (.ref a1), .val (.ref a5), .val (.int ((p1 &&& (65535 : Int32)).toUInt32.toUInt16.toUInt32.toInt32)), .val (.int (Int32.ofNat iv)), .val (.int (Int32.ofNat ir)), .val (.int (1 : Int32)), .unset] [])) _
        refine XS.iconst X34.here hx rfl (hb hby at_113) ?_
        show Steps p.tables e below (T34.setTop (mkF m 114 #[.val (.int p1), .val (.int p2), .val (.ref a1), .val (.ref a5), .val (.int ((p1 &&& (65535 : Int32)).toUInt32.toUInt16.toUInt32.toInt32)), .val (.int (Int32.ofNat iv)), .val (.int (Int32.ofNat ir)), .val (.int (1 : Int32)), .unset] [(.int (1 : Int32))])) _
        refine XS.goto X34.here hx rfl (pc0 := 114) (pc' := 118) rfl (hb hby at_114) (by decide) (by decide) ?_
        show Steps p.tables e below (T34.setTop (mkF m 118 #[.val (.int p1), .val (.int p2), .val (.ref a1), .val (.ref a5), .val (.int ((p1 &&& (65535 : Int32)).toUInt32.toUInt16.toUInt32.toInt32)), .val (.int (Int32.ofNat iv)), .val (.int (Int32.ofNat ir)), .val (.int (1 : Int32)), .unset] [(.int (1 : Int32))])) _
        refine XS.istore X34.here hx rfl (hb hby at_118) rfl (l' := #[.val (.int p1), .val (.int p2), .val (.ref a1), .val (.ref a5), .val (.int ((p1 &&& (65535 : Int32)).toUInt32.toUInt16.toUInt32.toInt32)), .val (.int (Int32.ofNat iv)), .val (.int (Int32.ofNat ir)), .val (.int (1 : Int32)), .val (.int (1 : Int32))]) rfl ?_
        show Steps p.tables e below (T34.setTop (mkF m 120 #[.val (.int p1), .val (.int p2), .val (.ref a1), .val (.ref a5), .val (.int ((p1 &&& (65535 : Int32)).toUInt32.toUInt16.toUInt32.toInt32)), .val (.int (Int32.ofNat iv)), .val (.int (Int32.ofNat ir)), .val (.int (1 : Int32)), .val (.int (1 : Int32))] [])) _
        refine XS.iload X34.here hx rfl (hb hby at_120) rfl ?_
        show Steps p.tables e below (T34.setTop (mkF m 122 #[.val (.int p1), .val (.int p2), .val (.ref a1), .val (.ref a5), .val (.int ((p1 &&& (65535 : Int32)).toUInt32.toUInt16.toUInt32.toInt32)), .val (.int (Int32.ofNat iv)), .val (.int (Int32.ofNat ir)), .val (.int (1 : Int32)), .val (.int (1 : Int32))] [(.int (1 : Int32))])) _
        refine XS.ifNo X34.here hx rfl (hb hby at_122) rfl ((if0 _ _).trans (feq (by decide)).1) ?_
        show Steps p.tables e below (T34.setTop (mkF m 125 #[.val (.int p1), .val (.int p2), .val (.ref a1), .val (.ref a5), .val (.int ((p1 &&& (65535 : Int32)).toUInt32.toUInt16.toUInt32.toInt32)), .val (.int (Int32.ofNat iv)), .val (.int (Int32.ofNat ir)), .val (.int (1 : Int32)), .val (.int (1 : Int32))] [])) _
        refine XS.iload X34.here hx rfl (hb hby at_125) rfl ?_
        show Steps p.tables e below (T34.setTop (mkF m 127 #[.val (.int p1), .val (.int p2), .val (.ref a1), .val (.ref a5), .val (.int ((p1 &&& (65535 : Int32)).toUInt32.toUInt16.toUInt32.toInt32)), .val (.int (Int32.ofNat iv)), .val (.int (Int32.ofNat ir)), .val (.int (1 : Int32)), .val (.int (1 : Int32))] [(.int (1 : Int32))])) _
        refine XS.ifNo X34.here hx rfl (hb hby at_127) rfl ((if0 _ _).trans (feq (by decide)).1) ?_
        show Steps p.tables e below (T34.setTop (mkF m 130 #[.val (.int p1), .val (.int p2), .val (.ref a1), .val (.ref a5), .val (.int ((p1 &&& (65535 : Int32)).toUInt32.toUInt16.toUInt32.toInt32)), .val (.int (Int32.ofNat iv)), .val (.int (Int32.ofNat ir)), .val (.int (1 : Int32)), .val (.int (1 : Int32))] [])) _
        refine XS.iconst X34.here hx rfl (hb hby at_130) ?_
        show Steps p.tables e below (T34.setTop (mkF m 131 #[.val (.int p1), .val (.int p2), .val (.ref a1), .val (.ref a5), .val (.int ((p1 &&& (65535 : Int32)).toUInt32.toUInt16.toUInt32.toInt32)), .val (.int (Int32.ofNat iv)), .val (.int (Int32.ofNat ir)), .val (.int (1 : Int32)), .val (.int (1 : Int32))] [(.int (1 : Int32))])) _
        refine XS.goto X34.here hx rfl (pc0 := 131) (pc' := 135) rfl (hb hby at_131) (by decide) (by decide) ?_
        exact kt
      obtain ⟨fs, hr, hrun, hended, hEnd⟩ := X34.leaveW (s := s) (vm₁ := T5.vm) hS5 (by rw [e34]; exact hk5) (v := some (.int (1 : Int32))) (fun h => by rw [Bd.returns] at h; cases h)
      refine ⟨_, _, pre35 _ ?_, hrun, hended, _, _, rfl, ?_, hEnd.1, hEnd.2.1, hEnd.2.2.1, hEnd.2.2.2.mono (by decide) (by decide)⟩
      · show Steps p.tables e below (T34.setTop (mkF m 135 #[.val (.int p1), .val (.int p2), .val (.ref a1), .val (.ref a5), .val (.int ((p1 &&& (65535 : Int32)).toUInt32.toUInt16.toUInt32.toInt32)), .val (.int (Int32.ofNat iv)), .val (.int (Int32.ofNat ir)), .val (.int (1 : Int32)), .val (.int (1 : Int32))] [(.int (1 : Int32))])) _
        exact retN X34 hx (t := .boolean) Bd.returns (by simp) (hb hby at_135) hr
      · show Q0 n0 _ T34.heap _
        rw [e34]
        exact ⟨rfl, N34⟩
    · have pre36 : ∀ t, Steps p.tables e below (T27.setTop (mkF m 61 #[.val (.int p1), .val (.int p2), .val (.ref a1), .val (.ref a5), .val (.int ((p1 &&& (65535 : Int32)).toUInt32.toUInt16.toUInt32.toInt32)), .val (.int (Int32.ofNat iv)), .val (.int (Int32.ofNat ir)), .unset, .unset] [])) t → Steps p.tables e below (s₁.setTop (entryFrame m #[(.int p1), (.int p2)] maxLocals)) t := by
        intro t kt
        refine pre27 t ?_
        show Steps p.tables e below (T27.setTop (mkF m 58 #[.val (.int p1), .val (.int p2), .val (.ref a1), .val (.ref a5), .val (.int ((p1 &&& (65535 : Int32)).toUInt32.toUInt16.toUInt32.toInt32)), .val (.int (Int32.ofNat iv)), .val (.int (Int32.ofNat ir)), .unset, .unset] [(.int (own_cs0.getD ir 0)), (.int ((p1 &&& (65535 : Int32)).toUInt32.toUInt16.toUInt32.toInt32))])) _
        refine XS.icmpNo X27.here hx rfl (hb hby at_58) rfl (feq hc58).1 ?_
        exact kt
      have pre37 : ∀ t, Steps p.tables e below (T27.setTop (mkF m 66 #[.val (.int p1), .val (.int p2), .val (.ref a1), .val (.ref a5), .val (.int ((p1 &&& (65535 : Int32)).toUInt32.toUInt16.toUInt32.toInt32)), .val (.int (Int32.ofNat iv)), .val (.int (Int32.ofNat ir)), .unset, .unset] [(.int (Int32.ofNat ir)), (.ref a5), (.int ((p1 &&& (65535 : Int32)).toUInt32.toUInt16.toUInt32.toInt32))])) t → Steps p.tables e below (s₁.setTop (entryFrame m #[(.int p1), (.int p2)] maxLocals)) t := by
        intro t kt
        refine pre36 t ?_
        show Steps p.tables e below (T27.setTop (mkF m 61 #[.val (.int p1), .val (.int p2), .val (.ref a1), .val (.ref a5), .val (.int ((p1 &&& (65535 : Int32)).toUInt32.toUInt16.toUInt32.toInt32)), .val (.int (Int32.ofNat iv)), .val (.int (Int32.ofNat ir)), .unset, .unset] [])) _
        refine XS.iload X27.here hx rfl (hb hby at_61) rfl ?_
        show Steps p.tables e below (T27.setTop (mkF m 63 #[.val (.int p1), .val (.int p2), .val (.ref a1), .val (.ref a5), .val (.int ((p1 &&& (65535 : Int32)).toUInt32.toUInt16.toUInt32.toInt32)), .val (.int (Int32.ofNat iv)), .val (.int (Int32.ofNat ir)), .unset, .unset] [(.int ((p1 &&& (65535 : Int32)).toUInt32.toUInt16.toUInt32.toInt32))])) _
        refine XS.aloadN X27.here hx rfl (hb hby at_63) rfl rfl ?_
        show Steps p.tables e below (T27.setTop (mkF m 64 #[.val (.int p1), .val (.int p2), .val (.ref a1), .val (.ref a5), .val (.int ((p1 &&& (65535 : Int32)).toUInt32.toUInt16.toUInt32.toInt32)), .val (.int (Int32.ofNat iv)), .val (.int (Int32.ofNat ir)), .unset, .unset] [(.ref a5), (.int ((p1 &&& (65535 : Int32)).toUInt32.toUInt16.toUInt32.toInt32))])) _
        refine XS.iload X27.here hx rfl (hb hby at_64) rfl ?_
        exact kt
      obtain ⟨cq38, kq38, q38a, q38b, q38c⟩ := isOf hZ e27 A5
      obtain ⟨_, _, ⟨T38, L38, k38, n38⟩, -, X38, ⟨Lc38, hQ38, l38, y38, z38⟩, st38⟩ := X27.virtualBack hx (y := (⟨"java/lang/String", "charAt", "(I)C"⟩ : MethodName)) (z := (⟨"java/lang/String", "charAt", "(I)C"⟩ : MethodName)) hown (mvT hZ (hw _ (List.mem_of_getElem? (i := 14) rfl))) (mvT hZ (hw _ (List.mem_of_getElem? (i := 15) rfl))) (notFace_of_selects (args := #[]) (mvT hZ (hw _ (List.mem_of_getElem? (i := 17) rfl)))) (mvT hZ (hw _ (List.mem_of_getElem? (i := 17) rfl))) (mvT hZ (hw _ (List.mem_of_getElem? (i := 16) rfl))) (by decide) (backOf (W := 1) (rm2 l Z a0 hw [] a5 (Int32.ofNat ir) b5 kb5 own_cs8 (16 : Int32) ir cz fm h5 n0 Z5 A5 F5 C5 V5 SCS_6 SFM_7 (hCS) (hFM) (own_hl8) (own_hi8 hir) (rfl) (own_hc8)) hZ (hw _ (List.mem_of_getElem? (i := 18) rfl)) (hw _ (List.mem_of_getElem? (i := 1) rfl)) (by decide) (by decide)) q38a q38c (g := (mkF m 66 #[.val (.int p1), .val (.int p2), .val (.ref a1), .val (.ref a5), .val (.int ((p1 &&& (65535 : Int32)).toUInt32.toUInt16.toUInt32.toInt32)), .val (.int (Int32.ofNat iv)), .val (.int (Int32.ofNat ir)), .unset, .unset] [(.int (Int32.ofNat ir)), (.ref a5), (.int ((p1 &&& (65535 : Int32)).toUInt32.toUInt16.toUInt32.toInt32))])) rfl (by rw [hml]; rfl) (Steps.refl _) (argsL := [(.int (Int32.ofNat ir))]) (rest := [(.int ((p1 &&& (65535 : Int32)).toUInt32.toUInt16.toUInt32.toInt32))]) (lenOf pd_5 rfl) rfl (by show 2 * 0 + _ ≤ _; exact Nat.le_of_eq rfl) (hb hby at_66) (fun _ _ => ⟨rfl, e27, (by decide : 4 + 0 ≤ _), (by decide : 136 + 0 ≤ _)⟩)
      dsimp only [Pt.U, Pt.locs, Pt.cells, Pt.slots] at X38 l38 y38 z38 st38 hQ38
      subst l38 y38 z38
      obtain ⟨rfl, N38q, e38⟩ := hQ38
      have N38 := Fr.app N27 N38q
      have pre38 : ∀ t, Steps p.tables e below (T38.setTop (mkF m 69 #[.val (.int p1), .val (.int p2), .val (.ref a1), .val (.ref a5), .val (.int ((p1 &&& (65535 : Int32)).toUInt32.toUInt16.toUInt32.toInt32)), .val (.int (Int32.ofNat iv)), .val (.int (Int32.ofNat ir)), .unset, .unset] [(.int (own_cs8.getD ir 0)), (.int ((p1 &&& (65535 : Int32)).toUInt32.toUInt16.toUInt32.toInt32))])) t → Steps p.tables e below (s₁.setTop (entryFrame m #[(.int p1), (.int p2)] maxLocals)) t := fun t kt => pre37 t (st38.trans kt)
      have pre39 : ∀ t, Steps p.tables e below (T38.setTop (mkF m 88 #[.val (.int p1), .val (.int p2), .val (.ref a1), .val (.ref a5), .val (.int ((p1 &&& (65535 : Int32)).toUInt32.toUInt16.toUInt32.toInt32)), .val (.int (Int32.ofNat iv)), .val (.int (Int32.ofNat ir)), .val (.int (1 : Int32)), .unset] [(.int (Int32.ofNat iv)), (.ref a1)])) t → Steps p.tables e below (s₁.setTop (entryFrame m #[(.int p1), (.int p2)] maxLocals)) t := by
        intro t kt
        refine pre38 t ?_
        show Steps p.tables e below (T38.setTop (mkF m 69 #[.val (.int p1), .val (.int p2), .val (.ref a1), .val (.ref a5), .val (.int ((p1 &&& (65535 : Int32)).toUInt32.toUInt16.toUInt32.toInt32)), .val (.int (Int32.ofNat iv)), .val (.int (Int32.ofNat ir)), .unset, .unset] [(.int (own_cs8.getD ir 0)), (.int ((p1 &&& (65535 : Int32)).toUInt32.toUInt16.toUInt32.toInt32))])) _
        refine XS.icmpNo X38.here hx rfl (hb hby at_69) rfl (teq (own_up _ er hir hc58)).2 ?_
        show Steps p.tables e below (T38.setTop (mkF m 72 #[.val (.int p1), .val (.int p2), .val (.ref a1), .val (.ref a5), .val (.int ((p1 &&& (65535 : Int32)).toUInt32.toUInt16.toUInt32.toInt32)), .val (.int (Int32.ofNat iv)), .val (.int (Int32.ofNat ir)), .unset, .unset] [])) _
        refine XS.iconst X38.here hx rfl (hb hby at_72) ?_
        show Steps p.tables e below (T38.setTop (mkF m 73 #[.val (.int p1), .val (.int p2), .val (.ref a1), .val (.ref a5), .val (.int ((p1 &&& (65535 : Int32)).toUInt32.toUInt16.toUInt32.toInt32)), .val (.int (Int32.ofNat iv)), .val (.int (Int32.ofNat ir)), .unset, .unset] [(.int (1 : Int32))])) _
        refine XS.goto X38.here hx rfl (pc0 := 73) (pc' := 77) rfl (hb hby at_73) (by decide) (by decide) ?_
        show Steps p.tables e below (T38.setTop (mkF m 77 #[.val (.int p1), .val (.int p2), .val (.ref a1), .val (.ref a5), .val (.int ((p1 &&& (65535 : Int32)).toUInt32.toUInt16.toUInt32.toInt32)), .val (.int (Int32.ofNat iv)), .val (.int (Int32.ofNat ir)), .unset, .unset] [(.int (1 : Int32))])) _
        refine XS.istore X38.here hx rfl (hb hby at_77) rfl (l' := #[.val (.int p1), .val (.int p2), .val (.ref a1), .val (.ref a5), .val (.int ((p1 &&& (65535 : Int32)).toUInt32.toUInt16.toUInt32.toInt32)), .val (.int (Int32.ofNat iv)), .val (.int (Int32.ofNat ir)), .val (.int (1 : Int32)), .unset]) rfl ?_
        show Steps p.tables e below (T38.setTop (mkF m 79 #[.val (.int p1), .val (.int p2), .val (.ref a1), .val (.ref a5), .val (.int ((p1 &&& (65535 : Int32)).toUInt32.toUInt16.toUInt32.toInt32)), .val (.int (Int32.ofNat iv)), .val (.int (Int32.ofNat ir)), .val (.int (1 : Int32)), .unset] [])) _
        refine XS.goto X38.here hx rfl (pc0 := 79) (pc' := 85) rfl (hb hby at_79) (by decide) (by decide) ?_
        show Steps p.tables e below (T38.setTop (mkF m 85 #[.val (.int p1), .val (.int p2), .val (.ref a1), .val (.ref a5), .val (.int ((p1 &&& (65535 : Int32)).toUInt32.toUInt16.toUInt32.toInt32)), .val (.int (Int32.ofNat iv)), .val (.int (Int32.ofNat ir)), .val (.int (1 : Int32)), .unset] [])) _
        refine XS.aloadN X38.here hx rfl (hb hby at_85) rfl rfl ?_
        show Steps p.tables e below (T38.setTop (mkF m 86 #[.val (.int p1), .val (.int p2), .val (.ref a1), .val (.ref a5), .val (.int ((p1 &&& (65535 : Int32)).toUInt32.toUInt16.toUInt32.toInt32)), .val (.int (Int32.ofNat iv)), .val (.int (Int32.ofNat ir)), .val (.int (1 : Int32)), .unset] [(.ref a1)])) _
        refine XS.iload X38.here hx rfl (hb hby at_86) rfl ?_
        exact kt
      obtain ⟨cq40, kq40, q40a, q40b, q40c⟩ := isOf hZ e38 A1_8
      obtain ⟨_, _, ⟨T40, L40, k40, n40⟩, -, X40, ⟨Lc40, hQ40, l40, y40, z40⟩, st40⟩ := X38.virtualBack hx (y := (⟨"java/lang/String", "charAt", "(I)C"⟩ : MethodName)) (z := (⟨"java/lang/String", "charAt", "(I)C"⟩ : MethodName)) hown (mvT hZ (hw _ (List.mem_of_getElem? (i := 14) rfl))) (mvT hZ (hw _ (List.mem_of_getElem? (i := 15) rfl))) (notFace_of_selects (args := #[]) (mvT hZ (hw _ (List.mem_of_getElem? (i := 17) rfl)))) (mvT hZ (hw _ (List.mem_of_getElem? (i := 17) rfl))) (mvT hZ (hw _ (List.mem_of_getElem? (i := 16) rfl))) (by decide) (backOf (W := 0) (rm2 l Z a0 hw [] a1 (Int32.ofNat iv) b1 kb1 own_cs0 (16 : Int32) iv cz fm h5 n0 Z5 A1_8 F1_10 C1_9 V1_11 SCS_6 SFM_7 (hCS) (hFM) (own_hl0) (own_hi0 hiv) (rfl) (own_hc0)) hZ (hw _ (List.mem_of_getElem? (i := 18) rfl)) (hw _ (List.mem_of_getElem? (i := 1) rfl)) (by decide) (by decide)) q40a q40c (g := (mkF m 88 #[.val (.int p1), .val (.int p2), .val (.ref a1), .val (.ref a5), .val (.int ((p1 &&& (65535 : Int32)).toUInt32.toUInt16.toUInt32.toInt32)), .val (.int (Int32.ofNat iv)), .val (.int (Int32.ofNat ir)), .val (.int (1 : Int32)), .unset] [(.int (Int32.ofNat iv)), (.ref a1)])) rfl (by rw [hml]; rfl) (Steps.refl _) (argsL := [(.int (Int32.ofNat iv))]) (rest := []) (lenOf pd_5 rfl) rfl (by show 2 * 0 + _ ≤ _; exact Nat.le_of_eq rfl) (hb hby at_88) (fun _ _ => ⟨rfl, e38, (by decide : 4 + 0 ≤ _), (by decide : 136 + 0 ≤ _)⟩)
      dsimp only [Pt.U, Pt.locs, Pt.cells, Pt.slots] at X40 l40 y40 z40 st40 hQ40
      subst l40 y40 z40
      obtain ⟨rfl, N40q, e40⟩ := hQ40
      have N40 := Fr.app N38 N40q
      have pre40 : ∀ t, Steps p.tables e below (T40.setTop (mkF m 91 #[.val (.int p1), .val (.int p2), .val (.ref a1), .val (.ref a5), .val (.int ((p1 &&& (65535 : Int32)).toUInt32.toUInt16.toUInt32.toInt32)), .val (.int (Int32.ofNat iv)), .val (.int (Int32.ofNat ir)), .val (.int (1 : Int32)), .unset] [(.int (own_cs0.getD iv 0))])) t → Steps p.tables e below (s₁.setTop (entryFrame m #[(.int p1), (.int p2)] maxLocals)) t := fun t kt => pre39 t (st40.trans kt)
      obtain ⟨_, _, ⟨T41, L41, k41, n41⟩, -, X41, ⟨Lc41, hQ41, l41, y41, z41⟩, st41⟩ := Jvm.LawKit.callS X40 hx (y := (⟨"com/example/nodearc/nodearc/io/NTriplesGrammar", "hexValue", "(C)I"⟩ : MethodName)) hown (mvT hZ (hw _ (List.mem_of_getElem? (i := 10) rfl))) (mvT hZ (hw _ (List.mem_of_getElem? (i := 11) rfl))) (mvT hZ (hw _ (List.mem_of_getElem? (i := 12) rfl))) (mvT hZ (hw _ (List.mem_of_getElem? (i := 13) rfl))) (by decide) (backOf (W := 0) (rm1 l Z a0 hw [] (own_cs0.getD iv 0) h5 n0) hZ (hw _ (List.mem_of_getElem? (i := 13) rfl)) (hw _ (List.mem_of_getElem? (i := 12) rfl)) (by decide) (by decide)) (g := (mkF m 91 #[.val (.int p1), .val (.int p2), .val (.ref a1), .val (.ref a5), .val (.int ((p1 &&& (65535 : Int32)).toUInt32.toUInt16.toUInt32.toInt32)), .val (.int (Int32.ofNat iv)), .val (.int (Int32.ofNat ir)), .val (.int (1 : Int32)), .unset] [(.int (own_cs0.getD iv 0))])) rfl (by rw [hml]; rfl) (argsL := [(.int (own_cs0.getD iv 0))]) (rest := []) (lenOf pd_4 rfl) rfl (by show 2 * 0 + _ ≤ _; exact Nat.le_of_eq rfl) (hb hby at_91) (fun _ _ => ⟨rfl, e40, (by decide : 4 + 0 ≤ _), (by decide : 136 + 0 ≤ _)⟩)
      dsimp only [Pt.U, Pt.locs, Pt.cells, Pt.slots] at X41 l41 y41 z41 st41 hQ41
      subst l41 y41 z41
      obtain ⟨rfl, N41q, e41⟩ := hQ41
      have N41 := Fr.app N40 N41q
      have pre41 : ∀ t, Steps p.tables e below (T41.setTop (mkF m 94 #[.val (.int p1), .val (.int p2), .val (.ref a1), .val (.ref a5), .val (.int ((p1 &&& (65535 : Int32)).toUInt32.toUInt16.toUInt32.toInt32)), .val (.int (Int32.ofNat iv)), .val (.int (Int32.ofNat ir)), .val (.int (1 : Int32)), .unset] [(.int (own_f1 (own_cs0.getD iv 0)))])) t → Steps p.tables e below (s₁.setTop (entryFrame m #[(.int p1), (.int p2)] maxLocals)) t := fun t kt => pre40 t (st41 _ kt)
      have pre42 : ∀ t, Steps p.tables e below (T41.setTop (mkF m 102 #[.val (.int p1), .val (.int p2), .val (.ref a1), .val (.ref a5), .val (.int ((p1 &&& (65535 : Int32)).toUInt32.toUInt16.toUInt32.toInt32)), .val (.int (Int32.ofNat iv)), .val (.int (Int32.ofNat ir)), .val (.int (1 : Int32)), .unset] [(.int (Int32.ofNat iv)), (.ref a5)])) t → Steps p.tables e below (s₁.setTop (entryFrame m #[(.int p1), (.int p2)] maxLocals)) t := by
        intro t kt
        refine pre41 t ?_
        show Steps p.tables e below (T41.setTop (mkF m 94 #[.val (.int p1), .val (.int p2), .val (.ref a1), .val (.ref a5), .val (.int ((p1 &&& (65535 : Int32)).toUInt32.toUInt16.toUInt32.toInt32)), .val (.int (Int32.ofNat iv)), .val (.int (Int32.ofNat ir)), .val (.int (1 : Int32)), .unset] [(.int (own_f1 (own_cs0.getD iv 0)))])) _
        refine XS.iload X41.here hx rfl (hb hby at_94) rfl ?_
        show Steps p.tables e below (T41.setTop (mkF m 96 #[.val (.int p1), .val (.int p2), .val (.ref a1), .val (.ref a5), .val (.int ((p1 &&& (65535 : Int32)).toUInt32.toUInt16.toUInt32.toInt32)), .val (.int (Int32.ofNat iv)), .val (.int (Int32.ofNat ir)), .val (.int (1 : Int32)), .unset] [(.int (Int32.ofNat iv)), (.int (own_f1 (own_cs0.getD iv 0)))])) _
        refine XS.icmpNo X41.here hx rfl (hb hby at_96) rfl (teq (own_lo hiv)).2 ?_
        show Steps p.tables e below (T41.setTop (mkF m 99 #[.val (.int p1), .val (.int p2), .val (.ref a1), .val (.ref a5), .val (.int ((p1 &&& (65535 : Int32)).toUInt32.toUInt16.toUInt32.toInt32)), .val (.int (Int32.ofNat iv)), .val (.int (Int32.ofNat ir)), .val (.int (1 : Int32)), .unset] [])) _
        refine XS.aloadN X41.here hx rfl (hb hby at_99) rfl rfl ?_
        show Steps p.tables e below (T41.setTop (mkF m 100 #[.val (.int p1), .val (.int p2), .val (.ref a1), .val (.ref a5), .val (.int ((p1 &&& (65535 : Int32)).toUInt32.toUInt16.toUInt32.toInt32)), .val (.int (Int32.ofNat iv)), .val (.int (Int32.ofNat ir)), .val (.int (1 : Int32)), .unset] [(.ref a5)])) _
        refine XS.iload X41.here hx rfl (hb hby at_100) rfl ?_
        exact kt
      obtain ⟨cq43, kq43, q43a, q43b, q43c⟩ := isOf hZ e41 A5
      obtain ⟨_, _, ⟨T43, L43, k43, n43⟩, -, X43, ⟨Lc43, hQ43, l43, y43, z43⟩, st43⟩ := X41.virtualBack hx (y := (⟨"java/lang/String", "charAt", "(I)C"⟩ : MethodName)) (z := (⟨"java/lang/String", "charAt", "(I)C"⟩ : MethodName)) hown (mvT hZ (hw _ (List.mem_of_getElem? (i := 14) rfl))) (mvT hZ (hw _ (List.mem_of_getElem? (i := 15) rfl))) (notFace_of_selects (args := #[]) (mvT hZ (hw _ (List.mem_of_getElem? (i := 17) rfl)))) (mvT hZ (hw _ (List.mem_of_getElem? (i := 17) rfl))) (mvT hZ (hw _ (List.mem_of_getElem? (i := 16) rfl))) (by decide) (backOf (W := 0) (rm2 l Z a0 hw [] a5 (Int32.ofNat iv) b5 kb5 own_cs8 (16 : Int32) iv cz fm h5 n0 Z5 A5 F5 C5 V5 SCS_6 SFM_7 (hCS) (hFM) (own_hl8) (own_hi8 hiv) (rfl) (own_hc8)) hZ (hw _ (List.mem_of_getElem? (i := 18) rfl)) (hw _ (List.mem_of_getElem? (i := 1) rfl)) (by decide) (by decide)) q43a q43c (g := (mkF m 102 #[.val (.int p1), .val (.int p2), .val (.ref a1), .val (.ref a5), .val (.int ((p1 &&& (65535 : Int32)).toUInt32.toUInt16.toUInt32.toInt32)), .val (.int (Int32.ofNat iv)), .val (.int (Int32.ofNat ir)), .val (.int (1 : Int32)), .unset] [(.int (Int32.ofNat iv)), (.ref a5)])) rfl (by rw [hml]; rfl) (Steps.refl _) (argsL := [(.int (Int32.ofNat iv))]) (rest := []) (lenOf pd_5 rfl) rfl (by show 2 * 0 + _ ≤ _; exact Nat.le_of_eq rfl) (hb hby at_102) (fun _ _ => ⟨rfl, e41, (by decide : 4 + 0 ≤ _), (by decide : 136 + 0 ≤ _)⟩)
      dsimp only [Pt.U, Pt.locs, Pt.cells, Pt.slots] at X43 l43 y43 z43 st43 hQ43
      subst l43 y43 z43
      obtain ⟨rfl, N43q, e43⟩ := hQ43
      have N43 := Fr.app N41 N43q
      have pre43 : ∀ t, Steps p.tables e below (T43.setTop (mkF m 105 #[.val (.int p1), .val (.int p2), .val (.ref a1), .val (.ref a5), .val (.int ((p1 &&& (65535 : Int32)).toUInt32.toUInt16.toUInt32.toInt32)), .val (.int (Int32.ofNat iv)), .val (.int (Int32.ofNat ir)), .val (.int (1 : Int32)), .unset] [(.int (own_cs8.getD iv 0))])) t → Steps p.tables e below (s₁.setTop (entryFrame m #[(.int p1), (.int p2)] maxLocals)) t := fun t kt => pre42 t (st43.trans kt)
      obtain ⟨_, _, ⟨T44, L44, k44, n44⟩, -, X44, ⟨Lc44, hQ44, l44, y44, z44⟩, st44⟩ := Jvm.LawKit.callS X43 hx (y := (⟨"com/example/nodearc/nodearc/io/NTriplesGrammar", "hexValue", "(C)I"⟩ : MethodName)) hown (mvT hZ (hw _ (List.mem_of_getElem? (i := 10) rfl))) (mvT hZ (hw _ (List.mem_of_getElem? (i := 11) rfl))) (mvT hZ (hw _ (List.mem_of_getElem? (i := 12) rfl))) (mvT hZ (hw _ (List.mem_of_getElem? (i := 13) rfl))) (by decide) (backOf (W := 0) (rm1 l Z a0 hw [] (own_cs8.getD iv 0) h5 n0) hZ (hw _ (List.mem_of_getElem? (i := 13) rfl)) (hw _ (List.mem_of_getElem? (i := 12) rfl)) (by decide) (by decide)) (g := (mkF m 105 #[.val (.int p1), .val (.int p2), .val (.ref a1), .val (.ref a5), .val (.int ((p1 &&& (65535 : Int32)).toUInt32.toUInt16.toUInt32.toInt32)), .val (.int (Int32.ofNat iv)), .val (.int (Int32.ofNat ir)), .val (.int (1 : Int32)), .unset] [(.int (own_cs8.getD iv 0))])) rfl (by rw [hml]; rfl) (argsL := [(.int (own_cs8.getD iv 0))]) (rest := []) (lenOf pd_4 rfl) rfl (by show 2 * 0 + _ ≤ _; exact Nat.le_of_eq rfl) (hb hby at_105) (fun _ _ => ⟨rfl, e43, (by decide : 4 + 0 ≤ _), (by decide : 136 + 0 ≤ _)⟩)
      dsimp only [Pt.U, Pt.locs, Pt.cells, Pt.slots] at X44 l44 y44 z44 st44 hQ44
      subst l44 y44 z44
      obtain ⟨rfl, N44q, e44⟩ := hQ44
      have N44 := Fr.app N43 N44q
      have pre44 : ∀ t, Steps p.tables e below (T44.setTop (mkF m 108 #[.val (.int p1), .val (.int p2), .val (.ref a1), .val (.ref a5), .val (.int ((p1 &&& (65535 : Int32)).toUInt32.toUInt16.toUInt32.toInt32)), .val (.int (Int32.ofNat iv)), .val (.int (Int32.ofNat ir)), .val (.int (1 : Int32)), .unset] [(.int (own_f1 (own_cs8.getD iv 0)))])) t → Steps p.tables e below (s₁.setTop (entryFrame m #[(.int p1), (.int p2)] maxLocals)) t := fun t kt => pre43 t (st44 _ kt)
      have pre45 : ∀ t, Steps p.tables e below (T44.setTop (mkF m 135 #[.val (.int p1), .val (.int p2), .val (.ref a1), .val (.ref a5), .val (.int ((p1 &&& (65535 : Int32)).toUInt32.toUInt16.toUInt32.toInt32)), .val (.int (Int32.ofNat iv)), .val (.int (Int32.ofNat ir)), .val (.int (1 : Int32)), .val (.int (1 : Int32))] [(.int (1 : Int32))])) t → Steps p.tables e below (s₁.setTop (entryFrame m #[(.int p1), (.int p2)] maxLocals)) t := by
        intro t kt
        refine pre44 t ?_
        show Steps p.tables e below (T44.setTop (mkF m 108 #[.val (.int p1), .val (.int p2), .val (.ref a1), .val (.ref a5), .val (.int ((p1 &&& (65535 : Int32)).toUInt32.toUInt16.toUInt32.toInt32)), .val (.int (Int32.ofNat iv)), .val (.int (Int32.ofNat ir)), .val (.int (1 : Int32)), .unset] [(.int (own_f1 (own_cs8.getD iv 0)))])) _
        refine XS.iload X44.here hx rfl (hb hby at_108) rfl ?_
        show Steps p.tables e below (T44.setTop (mkF m 110 #[.val (.int p1), .val (.int p2), .val (.ref a1), .val (.ref a5), .val (.int ((p1 &&& (65535 : Int32)).toUInt32.toUInt16.toUInt32.toInt32)), .val (.int (Int32.ofNat iv)), .val (.int (Int32.ofNat ir)), .val (.int (1 : Int32)), .unset] [(.int (Int32.ofNat iv)), (.int (own_f1 (own_cs8.getD iv 0)))])) _
        refine XS.icmpNo X44.here hx rfl (hb hby at_110) rfl (teq (own_hi hiv)).2 ?_
        show Steps p.tables e below (T44.setTop (mkF m 113 #[.val (.int p1), .val (.int p2), .val (.ref a1), .val (.ref a5), .val (.int ((p1 &&& (65535 : Int32)).toUInt32.toUInt16.toUInt32.toInt32)), .val (.int (Int32.ofNat iv)), .val (.int (Int32.ofNat ir)), .val (.int (1 : Int32)), .unset] [])) _
        refine XS.iconst X44.here hx rfl (hb hby at_113) ?_
        show Steps p.tables e below (T44.setTop (mkF m 114 #[.val (.int p1), .val (.int p2), .val (.ref a1), .val (.ref a5), .val (.int ((p1 &&& (65535 : Int32)).toUInt32.toUInt16.toUInt32.toInt32)), .val (.int (Int32.ofNat iv)), .val (.int (Int32.ofNat ir)), .val (.int (1 : Int32)), .unset] [(.int (1 : Int32))])) _
        refine XS.goto X44.here hx rfl (pc0 := 114) (pc' := 118) rfl (hb hby at_114) (by decide) (by decide) ?_
        show Steps p.tables e below (T44.setTop (mkF m 118 #[.val (.int p1), .val (.int p2), .val (.ref a1), .val (.ref a5), .val (.int ((p1 &&& (65535 : Int32)).toUInt32.toUInt16.toUInt32.toInt32)), .val (.int (Int32.ofNat iv)), .val (.int (Int32.ofNat ir)), .val (.int (1 : Int32)), .unset] [(.int (1 : Int32))])) _
        refine XS.istore X44.here hx rfl (hb hby at_118) rfl (l' := #[.val (.int p1), .val (.int p2), .val (.ref a1), .val (.ref a5), .val (.int ((p1 &&& (65535 : Int32)).toUInt32.toUInt16.toUInt32.toInt32)), .val (.int (Int32.ofNat iv)), .val (.int (Int32.ofNat ir)), .val (.int (1 : Int32)), .val (.int (1 : Int32))]) rfl ?_
        show Steps p.tables e below (T44.setTop (mkF m 120 #[.val (.int p1), .val (.int p2), .val (.ref a1), .val (.ref a5), .val (.int ((p1 &&& (65535 : Int32)).toUInt32.toUInt16.toUInt32.toInt32)), .val (.int (Int32.ofNat iv)), .val (.int (Int32.ofNat ir)), .val (.int (1 : Int32)), .val (.int (1 : Int32))] [])) _
        refine XS.iload X44.here hx rfl (hb hby at_120) rfl ?_
        show Steps p.tables e below (T44.setTop (mkF m 122 #[.val (.int p1), .val (.int p2), .val (.ref a1), .val (.ref a5), .val (.int ((p1 &&& (65535 : Int32)).toUInt32.toUInt16.toUInt32.toInt32)), .val (.int (Int32.ofNat iv)), .val (.int (Int32.ofNat ir)), .val (.int (1 : Int32)), .val (.int (1 : Int32))] [(.int (1 : Int32))])) _
        refine XS.ifNo X44.here hx rfl (hb hby at_122) rfl ((if0 _ _).trans (feq (by decide)).1) ?_
        show Steps p.tables e below (T44.setTop (mkF m 125 #[.val (.int p1), .val (.int p2), .val (.ref a1), .val (.ref a5), .val (.int ((p1 &&& (65535 : Int32)).toUInt32.toUInt16.toUInt32.toInt32)), .val (.int (Int32.ofNat iv)), .val (.int (Int32.ofNat ir)), .val (.int (1 : Int32)), .val (.int (1 : Int32))] [])) _
        refine XS.iload X44.here hx rfl (hb hby at_125) rfl ?_
        show Steps p.tables e below (T44.setTop (mkF m 127 #[.val (.int p1), .val (.int p2), .val (.ref a1), .val (.ref a5), .val (.int ((p1 &&& (65535 : Int32)).toUInt32.toUInt16.toUInt32.toInt32)), .val (.int (Int32.ofNat iv)), .val (.int (Int32.ofNat ir)), .val (.int (1 : Int32)), .val (.int (1 : Int32))] [(.int (1 : Int32))])) _
        refine XS.ifNo X44.here hx rfl (hb hby at_127) rfl ((if0 _ _).trans (feq (by decide)).1) ?_
        show Steps p.tables e below (T44.setTop (mkF m 130 #[.val (.int p1), .val (.int p2), .val (.ref a1), .val (.ref a5), .val (.int ((p1 &&& (65535 : Int32)).toUInt32.toUInt16.toUInt32.toInt32)), .val (.int (Int32.ofNat iv)), .val (.int (Int32.ofNat ir)), .val (.int (1 : Int32)), .val (.int (1 : Int32))] [])) _
        refine XS.iconst X44.here hx rfl (hb hby at_130) ?_
        show Steps p.tables e below (T44.setTop (mkF m 131 #[.val (.int p1), .val (.int p2), .val (.ref a1), .val (.ref a5), .val (.int ((p1 &&& (65535 : Int32)).toUInt32.toUInt16.toUInt32.toInt32)), .val (.int (Int32.ofNat iv)), .val (.int (Int32.ofNat ir)), .val (.int (1 : Int32)), .val (.int (1 : Int32))] [(.int (1 : Int32))])) _
        refine XS.goto X44.here hx rfl (pc0 := 131) (pc' := 135) rfl (hb hby at_131) (by decide) (by decide) ?_
        exact kt
      obtain ⟨fs, hr, hrun, hended, hEnd⟩ := X44.leaveW (s := s) (vm₁ := T5.vm) hS5 (by rw [e44]; exact hk5) (v := some (.int (1 : Int32))) (fun h => by rw [Bd.returns] at h; cases h)
      refine ⟨_, _, pre45 _ ?_, hrun, hended, _, _, rfl, ?_, hEnd.1, hEnd.2.1, hEnd.2.2.1, hEnd.2.2.2.mono (by decide) (by decide)⟩
      · show Steps p.tables e below (T44.setTop (mkF m 135 #[.val (.int p1), .val (.int p2), .val (.ref a1), .val (.ref a5), .val (.int ((p1 &&& (65535 : Int32)).toUInt32.toUInt16.toUInt32.toInt32)), .val (.int (Int32.ofNat iv)), .val (.int (Int32.ofNat ir)), .val (.int (1 : Int32)), .val (.int (1 : Int32))] [(.int (1 : Int32))])) _
        exact retN X44 hx (t := .boolean) Bd.returns (by simp) (hb hby at_135) hr
      · show Q0 n0 _ T44.heap _
        rw [e44]
        exact ⟨rfl, N44⟩
set_option maxRecDepth 65536 in
set_option maxHeartbeats 40000000 in
theorem comes_1 {Post : Tables → Env → Array Value → State → Outcome → State → Prop} (hpost : ∀ tb e args s v u, (limb_1_1.after args s (.returned v) u = true ∧ limb_1_2.after args s (.returned v) u = true ∧ True) → ReturnedEndW s (.returned v) u (Jvm.fieldLocs frame_1_writes args s ++ Jvm.arrayLocs frame_1_arrays args s ++ Jvm.staticLocs frame_1_statics s) 8 2112 → Post tb e args s (.returned v) u) :
    ArmFor flags0 classFile x code maxLocals ret World_1 tables_1 room_1 Calls_1 rest_1 Pre_1 Post := by
  intro l hfl _ _ p e ha hc hk s m args below hf hA hF happ hP
  obtain ⟨hcalls, hrest, hpre⟩ := hP
  obtain ⟨-, -, -, hnamed, -, -, -, hat⟩ := (Spec.applies_iff hf).mp happ
  obtain ⟨hg, hn⟩ := and_e (Cond.before_iff.mp (show (Jvm.Cond.and given_1 narrow_1).before args s = true from hpre))
  obtain ⟨g1, g2⟩ := and_e hg
  obtain ⟨g3, g4⟩ := and_e g2
  obtain ⟨w0, w1, rfl⟩ : ∃ w0 w1 : Value, args = #[w0, w1] := by
    have hs : args.size = 2 := by simpa [Cond.value, given_1] using g1
    obtain ⟨L⟩ := args
    match L, hs with
    | [w0, w1], _ => exact ⟨w0, w1, rfl⟩
  have hw := fun d (hd : d ∈ tables_1) => atoms_spec (ws := Jvm.Cond.code x code maxLocals ret :: tables_1) hat d (List.mem_cons_of_mem _ hd)
  have hfit : Fit s := fun {y c} hc i hi => by
    obtain ⟨ha, rfl⟩ := Array.getElem?_eq_some_iff.mp hc
    have q := List.all_eq_true.mp ((Array.all_eq_true_iff_forall_mem.mp hF) _ (Array.getElem_mem ha)) i (List.mem_range.mpr hi)
    simpa [Array.getElem?_eq_getElem hi] using q
  obtain ⟨hsets, hown0⟩ := atoms_of _ (rest_1_c_eq ▸ (show rest_1_c.before _ s = true from hrest))
  have hr0 := Cond.before_iff.mp hown0
  obtain ⟨i0, ei0⟩ := is_v g3
  obtain rfl : w0 = (.int i0) := Option.some.inj ei0
  obtain ⟨i1, ei1⟩ := is_v g4
  obtain rfl : w1 = (.int i1) := Option.some.inj ei1
  have nz := not_v (Cond.before_iff.mp (hsets _ (List.mem_of_getElem? (i := 2) rfl)))
  obtain ⟨cz, ecz⟩ := is_v (Cond.before_iff.mp (hsets _ (List.mem_of_getElem? (i := 1) rfl)))
  have SCS := Sta.start ecz (Or.inl (hsets _ (List.mem_of_getElem? (i := 0) rfl)))
  have hCS : ¬ (cz = (0 : Int32)) := gotF (Cond.eq_ints ecz (Term.int_eval (0))) nz
  obtain ⟨fm, efm, hFM⟩ := isR_v (Cond.before_iff.mp (hsets _ (List.mem_of_getElem? (i := 8) rfl)))
  have SFM := Sta.start efm (Or.inl (hsets _ (List.mem_of_getElem? (i := 7) rfl)))
  obtain ⟨n, o, h1, h2, h3, _, L, rfl, ⟨rfl, N⟩, hq⟩ := rm0 l s _ hw tables_1 i0 i1 cz fm s.heap s.heap.size (Nat.le_refl _) rfl SCS SFM hCS hFM (hsets _ (List.mem_of_getElem? (i := 2) rfl)) (hcalls.1 (_, 7) (by simp [consts_1])) (hcalls.1 (_, 9) (by simp [consts_1])) p e ha hc hk s m _ below hf ((Spec.applies_iff_loose hf).mp happ).1 ⟨rfl, State.Warmed39.refl s, rfl, rfl, rfl⟩ trivial
  refine ⟨n, _, h1, h2, h3, hpost _ _ _ _ _ _ ⟨Cond.after_iff.mpr rfl, Cond.after_iff.mpr (eq_i res_at (Term.int_eval (1)) rfl), trivial⟩ ⟨hq.1, hq.2.1, hq.2.2.1, (hq.2.2.2.sift fun y hy => Or.inr (N y hy)).mono (by decide) (by decide)⟩⟩
theorem main_1_1 : Claimed_1_1 := comes_1 fun _ _ _ _ _ _ h hF => ⟨h.1, hF⟩
theorem main_1_2 : Claimed_1_2 := comes_1 fun _ _ _ _ _ _ h hF => ⟨h.2.1, hF⟩
end Jvm.Pilot.@@N@@
namespace Jvm.Pilot.@@N@@
open Jvm Jvm.ClassFile Sem Op Lib Jvm.Free Jvm.Stand Jvm.Pilot.@@N@@.Jvm.D
/-! MADE BY PROGRAM (witnessworld.py) out of the Statement's table words and the real class files: 17 classes; the members and pool entries that the words name. The judged class is class 1, her method 1. -/
namespace start1
open Jvm.ClassFile
def u (s : String) : CpInfo := .utf8 (stringToUtf16 s)
/-- a pool by its gaps: so many unusable entries, then the entry; so many at the end -/
def gap : Nat → List CpInfo → List CpInfo
  | 0, r => r
  | n + 1, r => .unusable :: gap n r
def poolList (es : List (Nat × CpInfo)) (last : Nat) : List CpInfo := es.foldr (fun e r => gap e.1 (e.2 :: r)) (gap last [])
def pool (es : List (Nat × CpInfo)) (last : Nat) : Array CpInfo := ⟨poolList es last⟩
def fileOf (pool : Array CpInfo) (this : Nat) (attrs : Array Attribute := #[]) (ms : Array MethodInfo := #[]) (fl : Nat := 33) (sup : Nat := 0) (ifs : Array Nat := #[]) (fds : Array FieldInfo := #[]) : ClassFile where
  minorVersion := 0
  majorVersion := 65
  constantPool := pool
  accessFlags := fl
  thisClass := this
  superClass := sup
  interfaces := ifs
  fields := fds
  methods := ms
  attributes := attrs
def plain (name : String) (sup : Option ClassId) : Class where
  name := name
  kind := .ordinary
  loader := none
  accessFlags := 33
  super := sup
  interfaces := #[]
  cf := none
  fields := #[]
  methods := #[]
  instanceTypes := #[]
  staticTypes := #[]
  resolved := #[]
  callSites := []
  init := .initialized
  statics := none
  mirror := none

def pool0 : Array CpInfo := pool [(5, u "<init>"), (0, u "()V"), (1, .class_ 10), (1, u "java/lang/Object")] 113

def k0m0 : Method := { name := "<init>", desc := "()V", sig := { parameters := [], returnType := none }, accessFlags := 1, code := none }
/-- java/lang/Object -/
def k0 : Class := { plain "java/lang/Object" none with
  accessFlags := 33
  interfaces := #[]
  cf := some (fileOf pool0 8 #[] #[{ accessFlags := 1, nameIndex := 5, descriptorIndex := 6, attributes := #[] }] 33 0 #[] #[])
  fields := #[]
  methods := #[k0m0]
  instanceTypes := #[]
  staticTypes := #[]
  resolved := Array.replicate 124 none
  statics := none }

def pool1 : Array CpInfo := pool [(2, .class_ 4), (1, u "java/lang/Object"), (0, u "<init>"), (0, u "()V"), (0, .string 8), (0, u "0123456789abcdef"), (0, .string 10), (0, u "0123456789ABCDEF"), (0, .integer 65535), (0, .methodref 13 14), (0, .class_ 15), (0, .nameAndType 16 17), (0, u "com/example/nodearc/nodearc/io/NTriplesGrammar"), (0, u "hexValue"), (0, u "(C)I"), (0, .methodref 19 20), (0, .class_ 21), (0, .nameAndType 22 23), (0, u "java/lang/String"), (0, u "charAt"), (0, u "(I)C"), (0, .class_ 25), (0, u "com/example/nodearc/nodearc/io/NTriplesGrammarHexValuePinLaw"), (2, u "law"), (0, u "(II)Z")] 3

def k1m0 : Method := { name := "<init>", desc := "()V", sig := { parameters := [], returnType := none }, accessFlags := 2, code := none }
def k1c1 : Code := { maxStack := 3, maxLocals := 9, code := code, exceptionTable := #[], attributes := #[] }
def k1m1 : Method := { name := "law", desc := "(II)Z", sig := { parameters := [.int, .int], returnType := some .boolean }, accessFlags := 9, code := some k1c1 }
/-- com/example/nodearc/nodearc/io/NTriplesGrammarHexValuePinLaw -/
def k1 : Class := { plain "com/example/nodearc/nodearc/io/NTriplesGrammarHexValuePinLaw" (some 0) with
  accessFlags := 49
  interfaces := #[]
  cf := some (fileOf pool1 24 #[] #[{ accessFlags := 2, nameIndex := 5, descriptorIndex := 6, attributes := #[] }, { accessFlags := 9, nameIndex := 28, descriptorIndex := 29, attributes := #[] }] 49 2 #[] #[])
  fields := #[]
  methods := #[k1m0, k1m1]
  instanceTypes := #[]
  staticTypes := #[]
  resolved := Array.replicate 33 none
  statics := none }

def pool2 : Array CpInfo := pool [(1, .class_ 2), (0, u "java/io/Serializable"), (0, .class_ 4), (0, u "java/lang/Object")] 2

/-- java/io/Serializable -/
def k2 : Class := { plain "java/io/Serializable" (some 0) with
  accessFlags := 1537
  interfaces := #[]
  cf := some (fileOf pool2 1 #[] #[] 1537 3 #[] #[])
  fields := #[]
  methods := #[]
  instanceTypes := #[]
  staticTypes := #[]
  resolved := Array.replicate 7 none
  statics := none }

def pool3 : Array CpInfo := pool [(1, .class_ 2), (0, u "java/lang/Comparable"), (0, .class_ 4), (0, u "java/lang/Object")] 7

/-- java/lang/Comparable -/
def k3 : Class := { plain "java/lang/Comparable" (some 0) with
  accessFlags := 1537
  interfaces := #[]
  cf := some (fileOf pool3 1 #[] #[] 1537 3 #[] #[])
  fields := #[]
  methods := #[]
  instanceTypes := #[]
  staticTypes := #[]
  resolved := Array.replicate 12 none
  statics := none }

def pool4 : Array CpInfo := pool [(2, .class_ 4), (1, u "java/lang/CharSequence"), (42, .class_ 48), (0, u "java/lang/CharSequence$1CodePointIterator"), (10, .class_ 60), (0, u "java/lang/CharSequence$1CharIterator"), (5, .class_ 67), (0, u "java/lang/Object")] 63

/-- java/lang/CharSequence -/
def k4 : Class := { plain "java/lang/CharSequence" (some 0) with
  accessFlags := 1537
  interfaces := #[]
  cf := some (fileOf pool4 2 #[.nestMembers #[47, 59]] #[] 1537 66 #[] #[])
  fields := #[]
  methods := #[]
  instanceTypes := #[]
  staticTypes := #[]
  resolved := Array.replicate 131 none
  statics := none }

def pool5 : Array CpInfo := pool [(1, .class_ 2), (0, u "java/lang/constant/Constable"), (0, .class_ 4), (0, u "java/lang/Object")] 6

/-- java/lang/constant/Constable -/
def k5 : Class := { plain "java/lang/constant/Constable" (some 0) with
  accessFlags := 1537
  interfaces := #[]
  cf := some (fileOf pool5 1 #[] #[] 1537 3 #[] #[])
  fields := #[]
  methods := #[]
  instanceTypes := #[]
  staticTypes := #[]
  resolved := Array.replicate 11 none
  statics := none }

def pool6 : Array CpInfo := pool [(1, .class_ 2), (0, u "java/lang/constant/ConstantDesc"), (0, .class_ 4), (0, u "java/lang/Object")] 32

/-- java/lang/constant/ConstantDesc -/
def k6 : Class := { plain "java/lang/constant/ConstantDesc" (some 0) with
  accessFlags := 1537
  interfaces := #[]
  cf := some (fileOf pool6 1 #[] #[] 1537 3 #[] #[])
  fields := #[]
  methods := #[]
  instanceTypes := #[]
  staticTypes := #[]
  resolved := Array.replicate 37 none
  statics := none }

def pool7 : Array CpInfo := pool [(2, .class_ 4), (1, u "java/lang/Object"), (0, u "<init>"), (0, u "()V"), (2, .fieldref 10 11), (0, .class_ 12), (0, .nameAndType 13 14), (0, u "java/lang/String"), (0, u "value"), (0, u "[B"), (0, .fieldref 10 16), (0, .nameAndType 17 18), (0, u "coder"), (0, u "B"), (2, u "hash"), (0, u "I"), (2, u "hashIsZero"), (0, u "Z"), (11, .fieldref 10 39), (0, .nameAndType 40 26), (0, u "COMPACT_STRINGS"), (66, .class_ 109), (1, u "java/lang/StringLatin1"), (32, u "()Z"), (220, u "([BI)C"), (27, u "(II)V"), (35, u "(I)C"), (64, .methodref 10 493), (0, .nameAndType 494 142), (0, u "isLatin1"), (0, .methodref 107 496), (0, .nameAndType 497 363), (0, u "charAt"), (3, u "checkIndex"), (73, .class_ 576), (0, u "java/lang/CharSequence"), (22, u "CASE_INSENSITIVE_ORDER"), (0, u "Ljava/util/Comparator;"), (452, .fieldref 1054 1055), (0, .class_ 1056), (0, .nameAndType 1057 1058), (0, u "jdk/internal/util/Preconditions"), (0, u "SIOOBE_FORMATTER"), (0, u "Ljava/util/function/BiFunction;"), (0, .methodref 1054 1060), (0, .nameAndType 501 1061), (0, u "(IILjava/util/function/BiFunction;)I"), (39, u "serialPersistentFields"), (0, u "[Ljava/io/ObjectStreamField;"), (0, .class_ 1104), (0, u "java/lang/String$CaseInsensitiveComparator"), (1, .class_ 1107), (0, u "java/io/Serializable"), (0, .class_ 1109), (0, u "java/lang/Comparable"), (0, .class_ 1111), (0, u "java/lang/constant/Constable"), (0, .class_ 1113), (0, u "java/lang/constant/ConstantDesc"), (2, u "serialVersionUID"), (0, u "J"), (3, u "REPL"), (0, u "C"), (2, u "LATIN1"), (1, u "UTF16")] 323

def k7m0 : Method := { name := "<init>", desc := "()V", sig := { parameters := [], returnType := none }, accessFlags := 1, code := none }
def k7c1 : Code := { maxStack := 2, maxLocals := 2, code := jdk_42_method_56_code, exceptionTable := #[], attributes := #[] }
def k7m1 : Method := { name := "charAt", desc := "(I)C", sig := { parameters := [.int], returnType := some .char }, accessFlags := 1, code := some k7c1 }
def k7c2 : Code := { maxStack := 1, maxLocals := 1, code := jdk_42_method_154_code, exceptionTable := #[], attributes := #[] }
def k7m2 : Method := { name := "isLatin1", desc := "()Z", sig := { parameters := [], returnType := some .boolean }, accessFlags := 0, code := some k7c2 }
def k7c3 : Code := { maxStack := 3, maxLocals := 2, code := jdk_42_method_155_code, exceptionTable := #[], attributes := #[] }
def k7m3 : Method := { name := "checkIndex", desc := "(II)V", sig := { parameters := [.int, .int], returnType := none }, accessFlags := 8, code := some k7c3 }
/-- java/lang/String -/
def k7 : Class := { plain "java/lang/String" (some 0) with
  accessFlags := 49
  interfaces := #[2, 3, 4, 5, 6]
  cf := some (fileOf pool7 10 #[.nestMembers #[1103]] #[{ accessFlags := 1, nameIndex := 5, descriptorIndex := 6, attributes := #[] }, { accessFlags := 1, nameIndex := 497, descriptorIndex := 427, attributes := #[] }, { accessFlags := 0, nameIndex := 494, descriptorIndex := 142, attributes := #[] }, { accessFlags := 8, nameIndex := 501, descriptorIndex := 391, attributes := #[] }] 49 2 #[1106, 1108, 575, 1110, 1112] #[{ accessFlags := 18, nameIndex := 13, descriptorIndex := 14, attributes := #[] }, { accessFlags := 18, nameIndex := 17, descriptorIndex := 18, attributes := #[] }, { accessFlags := 2, nameIndex := 21, descriptorIndex := 22, attributes := #[] }, { accessFlags := 2, nameIndex := 25, descriptorIndex := 26, attributes := #[] }, { accessFlags := 26, nameIndex := 1116, descriptorIndex := 1117, attributes := #[] }, { accessFlags := 24, nameIndex := 40, descriptorIndex := 26, attributes := #[] }, { accessFlags := 26, nameIndex := 1101, descriptorIndex := 1102, attributes := #[] }, { accessFlags := 26, nameIndex := 1121, descriptorIndex := 1122, attributes := #[] }, { accessFlags := 25, nameIndex := 599, descriptorIndex := 600, attributes := #[] }, { accessFlags := 24, nameIndex := 1125, descriptorIndex := 18, attributes := #[] }, { accessFlags := 24, nameIndex := 1127, descriptorIndex := 18, attributes := #[] }])
  fields := #[{ name := "value", type := (.array .byte), accessFlags := 18, slot := 0, constantValue := 0 }, { name := "coder", type := .byte, accessFlags := 18, slot := 1, constantValue := 0 }, { name := "hash", type := .int, accessFlags := 2, slot := 2, constantValue := 0 }, { name := "hashIsZero", type := .boolean, accessFlags := 2, slot := 3, constantValue := 0 }, { name := "serialVersionUID", type := .long, accessFlags := 26, slot := 0, constantValue := 0 }, { name := "COMPACT_STRINGS", type := .boolean, accessFlags := 24, slot := 1, constantValue := 0 }, { name := "serialPersistentFields", type := (.array (.object "java/io/ObjectStreamField")), accessFlags := 26, slot := 2, constantValue := 0 }, { name := "REPL", type := .char, accessFlags := 26, slot := 3, constantValue := 0 }, { name := "CASE_INSENSITIVE_ORDER", type := (.object "java/util/Comparator"), accessFlags := 25, slot := 4, constantValue := 0 }, { name := "LATIN1", type := .byte, accessFlags := 24, slot := 5, constantValue := 0 }, { name := "UTF16", type := .byte, accessFlags := 24, slot := 6, constantValue := 0 }]
  methods := #[k7m0, k7m1, k7m2, k7m3]
  instanceTypes := #[(.array .byte), .byte, .int, .boolean]
  staticTypes := #[.long, .boolean, (.array (.object "java/io/ObjectStreamField")), .char, (.object "java/util/Comparator"), .byte, .byte]
  resolved := Array.replicate 1451 none
  statics := some 0 }

def pool8 : Array CpInfo := pool [(2, .class_ 4), (1, u "java/lang/Object"), (0, u "<init>"), (0, u "()V"), (1, .class_ 10), (1, u "com/example/nodearc/nodearc/io/NTriplesGrammar"), (46, u "ASCII_FORBIDDEN_IN_IRI"), (0, u "[Z"), (33, u "ECHAR_LETTERS"), (0, u "Ljava/lang/String;"), (3, u "ECHAR_MEANINGS"), (2, u "FORBIDDEN_IN_IRI"), (9, u "hexValue"), (0, u "(C)I")] 5

def k8m0 : Method := { name := "<init>", desc := "()V", sig := { parameters := [], returnType := none }, accessFlags := 2, code := none }
def k8c1 : Code := { maxStack := 2, maxLocals := 2, code := prog_81_method_13_code, exceptionTable := #[], attributes := #[] }
def k8m1 : Method := { name := "hexValue", desc := "(C)I", sig := { parameters := [.char], returnType := some .int }, accessFlags := 8, code := some k8c1 }
/-- com/example/nodearc/nodearc/io/NTriplesGrammar -/
def k8 : Class := { plain "com/example/nodearc/nodearc/io/NTriplesGrammar" (some 0) with
  accessFlags := 48
  interfaces := #[]
  cf := some (fileOf pool8 8 #[] #[{ accessFlags := 2, nameIndex := 5, descriptorIndex := 6, attributes := #[] }, { accessFlags := 8, nameIndex := 110, descriptorIndex := 111, attributes := #[] }] 48 2 #[] #[{ accessFlags := 24, nameIndex := 92, descriptorIndex := 93, attributes := #[] }, { accessFlags := 24, nameIndex := 97, descriptorIndex := 93, attributes := #[] }, { accessFlags := 26, nameIndex := 100, descriptorIndex := 93, attributes := #[] }, { accessFlags := 26, nameIndex := 57, descriptorIndex := 58, attributes := #[] }])
  fields := #[{ name := "ECHAR_LETTERS", type := (.object "java/lang/String"), accessFlags := 24, slot := 0, constantValue := 0 }, { name := "ECHAR_MEANINGS", type := (.object "java/lang/String"), accessFlags := 24, slot := 1, constantValue := 0 }, { name := "FORBIDDEN_IN_IRI", type := (.object "java/lang/String"), accessFlags := 26, slot := 2, constantValue := 0 }, { name := "ASCII_FORBIDDEN_IN_IRI", type := (.array .boolean), accessFlags := 26, slot := 3, constantValue := 0 }]
  methods := #[k8m0, k8m1]
  instanceTypes := #[]
  staticTypes := #[(.object "java/lang/String"), (.object "java/lang/String"), (.object "java/lang/String"), (.array .boolean)]
  resolved := Array.replicate 117 none
  statics := none }

def pool9 : Array CpInfo := pool [(1, .class_ 2), (0, u "java/lang/String"), (1, .class_ 6), (1, u "java/lang/Object"), (0, u "<init>"), (0, u "()V"), (0, .methodref 1 10), (0, .nameAndType 11 12), (0, u "checkIndex"), (0, u "(II)V"), (1, .class_ 16), (1, u "java/lang/StringLatin1"), (36, u "([BI)C"), (67, u "$assertionsDisabled"), (0, u "Z"), (98, .class_ 223), (1, u "java/lang/StringLatin1$LinesSpliterator"), (28, u "charAt"), (137, .class_ 391), (0, u "java/lang/StringLatin1$CharsSpliterator")] 3

def k9m0 : Method := { name := "<init>", desc := "()V", sig := { parameters := [], returnType := none }, accessFlags := 0, code := none }
def k9c1 : Code := { maxStack := 2, maxLocals := 2, code := jdk_43_method_2_code, exceptionTable := #[], attributes := #[] }
def k9m1 : Method := { name := "charAt", desc := "([BI)C", sig := { parameters := [(.array .byte), .int], returnType := some .char }, accessFlags := 9, code := some k9c1 }
/-- java/lang/StringLatin1 -/
def k9 : Class := { plain "java/lang/StringLatin1" (some 0) with
  accessFlags := 48
  interfaces := #[]
  cf := some (fileOf pool9 14 #[.nestMembers #[390, 221]] #[{ accessFlags := 0, nameIndex := 7, descriptorIndex := 8, attributes := #[] }, { accessFlags := 9, nameIndex := 252, descriptorIndex := 53, attributes := #[] }] 48 4 #[] #[{ accessFlags := 4120, nameIndex := 121, descriptorIndex := 122, attributes := #[] }])
  fields := #[{ name := "$assertionsDisabled", type := .boolean, accessFlags := 4120, slot := 0, constantValue := 0 }]
  methods := #[k9m0, k9m1]
  instanceTypes := #[]
  staticTypes := #[.boolean]
  resolved := Array.replicate 395 none
  statics := none }

def pool10 : Array CpInfo := pool [(2, .class_ 4), (1, u "java/lang/Object"), (0, u "<init>"), (0, u "()V"), (17, .class_ 26), (1, u "jdk/internal/util/Preconditions"), (6, u "checkIndex"), (21, .class_ 56), (0, u "jdk/internal/util/Preconditions$4"), (57, .class_ 115), (0, u "jdk/internal/util/Preconditions$1"), (7, u "SIOOBE_FORMATTER"), (0, u "Ljava/util/function/BiFunction;"), (0, .class_ 126), (0, u "jdk/internal/util/Preconditions$2"), (3, u "AIOOBE_FORMATTER"), (0, .class_ 132), (0, u "jdk/internal/util/Preconditions$3"), (3, u "IOOBE_FORMATTER"), (41, u "(IILjava/util/function/BiFunction;)I")] 15

def k10m0 : Method := { name := "<init>", desc := "()V", sig := { parameters := [], returnType := none }, accessFlags := 1, code := none }
def k10c1 : Code := { maxStack := 3, maxLocals := 3, code := jdk_41_method_11_code, exceptionTable := #[], attributes := #[] }
def k10m1 : Method := { name := "checkIndex", desc := "(IILjava/util/function/BiFunction;)I", sig := { parameters := [.int, .int, (.object "java/util/function/BiFunction")], returnType := some .int }, accessFlags := 9, code := some k10c1 }
/-- jdk/internal/util/Preconditions -/
def k10 : Class := { plain "jdk/internal/util/Preconditions" (some 0) with
  accessFlags := 33
  interfaces := #[]
  cf := some (fileOf pool10 24 #[.nestMembers #[55, 131, 125, 114]] #[{ accessFlags := 1, nameIndex := 5, descriptorIndex := 6, attributes := #[] }, { accessFlags := 9, nameIndex := 33, descriptorIndex := 178, attributes := #[] }] 33 2 #[] #[{ accessFlags := 25, nameIndex := 123, descriptorIndex := 124, attributes := #[] }, { accessFlags := 25, nameIndex := 130, descriptorIndex := 124, attributes := #[] }, { accessFlags := 25, nameIndex := 136, descriptorIndex := 124, attributes := #[] }])
  fields := #[{ name := "SIOOBE_FORMATTER", type := (.object "java/util/function/BiFunction"), accessFlags := 25, slot := 0, constantValue := 0 }, { name := "AIOOBE_FORMATTER", type := (.object "java/util/function/BiFunction"), accessFlags := 25, slot := 1, constantValue := 0 }, { name := "IOOBE_FORMATTER", type := (.object "java/util/function/BiFunction"), accessFlags := 25, slot := 2, constantValue := 0 }]
  methods := #[k10m0, k10m1]
  instanceTypes := #[]
  staticTypes := #[(.object "java/util/function/BiFunction"), (.object "java/util/function/BiFunction"), (.object "java/util/function/BiFunction")]
  resolved := Array.replicate 194 none
  statics := some 1 }

def pool11 : Array CpInfo := pool [(9, u "<init>"), (6, .class_ 18), (1, u "java/lang/Object"), (0, u "()V"), (1, .class_ 23), (1, u "jdk/internal/util/ArraysSupport"), (0, u "LOG2_ARRAY_LONG_INDEX_SCALE"), (0, u "I"), (2, u "U"), (0, u "Ljdk/internal/misc/Unsafe;"), (8, u "BIG_ENDIAN"), (0, u "Z"), (8, u "LOG2_BYTE_BIT_SIZE"), (4, u "LOG2_ARRAY_INT_INDEX_SCALE"), (54, u "JLA"), (0, u "Ljdk/internal/access/JavaLangAccess;"), (11, u "LOG2_ARRAY_BOOLEAN_INDEX_SCALE"), (9, u "LOG2_ARRAY_BYTE_INDEX_SCALE"), (5, u "LOG2_ARRAY_CHAR_INDEX_SCALE"), (5, u "LOG2_ARRAY_SHORT_INDEX_SCALE"), (18, u "LOG2_ARRAY_FLOAT_INDEX_SCALE"), (24, u "LOG2_ARRAY_DOUBLE_INDEX_SCALE"), (89, u "T_BOOLEAN"), (2, u "T_CHAR"), (1, u "T_FLOAT"), (1, u "T_DOUBLE"), (1, u "T_BYTE"), (1, u "T_SHORT"), (1, u "T_INT"), (1, u "T_LONG"), (1, u "SOFT_MAX_ARRAY_LENGTH")] 83

def k11m0 : Method := { name := "<init>", desc := "()V", sig := { parameters := [], returnType := none }, accessFlags := 2, code := none }
/-- jdk/internal/util/ArraysSupport -/
def k11 : Class := { plain "jdk/internal/util/ArraysSupport" (some 0) with
  accessFlags := 33
  interfaces := #[]
  cf := some (fileOf pool11 21 #[] #[{ accessFlags := 2, nameIndex := 9, descriptorIndex := 19, attributes := #[] }] 33 16 #[] #[{ accessFlags := 24, nameIndex := 28, descriptorIndex := 29, attributes := #[] }, { accessFlags := 26, nameIndex := 38, descriptorIndex := 39, attributes := #[] }, { accessFlags := 25, nameIndex := 121, descriptorIndex := 25, attributes := #[] }, { accessFlags := 25, nameIndex := 131, descriptorIndex := 25, attributes := #[] }, { accessFlags := 25, nameIndex := 137, descriptorIndex := 25, attributes := #[] }, { accessFlags := 25, nameIndex := 143, descriptorIndex := 25, attributes := #[] }, { accessFlags := 25, nameIndex := 53, descriptorIndex := 25, attributes := #[] }, { accessFlags := 25, nameIndex := 24, descriptorIndex := 25, attributes := #[] }, { accessFlags := 25, nameIndex := 162, descriptorIndex := 25, attributes := #[] }, { accessFlags := 25, nameIndex := 187, descriptorIndex := 25, attributes := #[] }, { accessFlags := 26, nameIndex := 48, descriptorIndex := 25, attributes := #[] }, { accessFlags := 25, nameIndex := 277, descriptorIndex := 25, attributes := #[] }, { accessFlags := 25, nameIndex := 280, descriptorIndex := 25, attributes := #[] }, { accessFlags := 25, nameIndex := 282, descriptorIndex := 25, attributes := #[] }, { accessFlags := 25, nameIndex := 284, descriptorIndex := 25, attributes := #[] }, { accessFlags := 25, nameIndex := 286, descriptorIndex := 25, attributes := #[] }, { accessFlags := 25, nameIndex := 288, descriptorIndex := 25, attributes := #[] }, { accessFlags := 25, nameIndex := 290, descriptorIndex := 25, attributes := #[] }, { accessFlags := 25, nameIndex := 292, descriptorIndex := 25, attributes := #[] }, { accessFlags := 26, nameIndex := 108, descriptorIndex := 109, attributes := #[] }, { accessFlags := 25, nameIndex := 294, descriptorIndex := 25, attributes := #[] }])
  fields := #[{ name := "U", type := (.object "jdk/internal/misc/Unsafe"), accessFlags := 24, slot := 0, constantValue := 0 }, { name := "BIG_ENDIAN", type := .boolean, accessFlags := 26, slot := 1, constantValue := 0 }, { name := "LOG2_ARRAY_BOOLEAN_INDEX_SCALE", type := .int, accessFlags := 25, slot := 2, constantValue := 0 }, { name := "LOG2_ARRAY_BYTE_INDEX_SCALE", type := .int, accessFlags := 25, slot := 3, constantValue := 0 }, { name := "LOG2_ARRAY_CHAR_INDEX_SCALE", type := .int, accessFlags := 25, slot := 4, constantValue := 0 }, { name := "LOG2_ARRAY_SHORT_INDEX_SCALE", type := .int, accessFlags := 25, slot := 5, constantValue := 0 }, { name := "LOG2_ARRAY_INT_INDEX_SCALE", type := .int, accessFlags := 25, slot := 6, constantValue := 0 }, { name := "LOG2_ARRAY_LONG_INDEX_SCALE", type := .int, accessFlags := 25, slot := 7, constantValue := 0 }, { name := "LOG2_ARRAY_FLOAT_INDEX_SCALE", type := .int, accessFlags := 25, slot := 8, constantValue := 0 }, { name := "LOG2_ARRAY_DOUBLE_INDEX_SCALE", type := .int, accessFlags := 25, slot := 9, constantValue := 0 }, { name := "LOG2_BYTE_BIT_SIZE", type := .int, accessFlags := 26, slot := 10, constantValue := 0 }, { name := "T_BOOLEAN", type := .int, accessFlags := 25, slot := 11, constantValue := 0 }, { name := "T_CHAR", type := .int, accessFlags := 25, slot := 12, constantValue := 0 }, { name := "T_FLOAT", type := .int, accessFlags := 25, slot := 13, constantValue := 0 }, { name := "T_DOUBLE", type := .int, accessFlags := 25, slot := 14, constantValue := 0 }, { name := "T_BYTE", type := .int, accessFlags := 25, slot := 15, constantValue := 0 }, { name := "T_SHORT", type := .int, accessFlags := 25, slot := 16, constantValue := 0 }, { name := "T_INT", type := .int, accessFlags := 25, slot := 17, constantValue := 0 }, { name := "T_LONG", type := .int, accessFlags := 25, slot := 18, constantValue := 0 }, { name := "JLA", type := (.object "jdk/internal/access/JavaLangAccess"), accessFlags := 26, slot := 19, constantValue := 0 }, { name := "SOFT_MAX_ARRAY_LENGTH", type := .int, accessFlags := 25, slot := 20, constantValue := 0 }]
  methods := #[k11m0]
  instanceTypes := #[]
  staticTypes := #[(.object "jdk/internal/misc/Unsafe"), .boolean, .int, .int, .int, .int, .int, .int, .int, .int, .int, .int, .int, .int, .int, .int, .int, .int, .int, (.object "jdk/internal/access/JavaLangAccess"), .int]
  resolved := Array.replicate 378 none
  statics := none }

def pool12 : Array CpInfo := pool [(1, u "java/lang/Cloneable"), (0, .class_ 1), (0, u "java/lang/Object"), (0, .class_ 3)] 3

/-- java/lang/Cloneable -/
def k12 : Class := { plain "java/lang/Cloneable" (some 0) with
  accessFlags := 1537
  interfaces := #[]
  cf := some (fileOf pool12 2 #[] #[] 1537 4 #[] #[])
  fields := #[]
  methods := #[]
  instanceTypes := #[]
  staticTypes := #[]
  resolved := Array.replicate 8 none
  statics := none }

/-- the primitive byte -/
def k13 : Class := { plain "byte" none with kind := .primitive 'B', accessFlags := 0x411 }
/-- [B -/
def k14 : Class := { plain "[B" (some 0) with kind := .array 13 .byte, interfaces := #[12, 2], accessFlags := 1041 }

/-- the primitive int -/
def k15 : Class := { plain "int" none with kind := .primitive 'I', accessFlags := 0x411 }
/-- [I -/
def k16 : Class := { plain "[I" (some 0) with kind := .array 15 .int, interfaces := #[12, 2], accessFlags := 1041 }

def heap : Heap := #[{ cls := 7, slots := #[.long 0, .int 1, .null, .int 0, .null, .int 0, .int 0], vm := .statics 7 },
  { cls := 10, slots := #[.null, .null, .null], vm := .statics 10 }]
def classes : Array Class := #[k0, k1, k2, k3, k4, k5, k6, k7, k8, k9, k10, k11, k12, k13, k14, k15, k16]
def interned : List (Array UInt16 × Addr) := []
def slotsUsed : Nat := 10
def theMethod : MethodId := ⟨1, 1⟩
def args0 : Array Value := #[.int 5, .int 6]
def aboutOver (below : List Frame) : State where
  vm := { classes := classes, interned := interned.toArray }
  heap := heap
  slotsUsed := slotsUsed
  threads := #[{ frames := .invoking theMethod args0 :: below }]
def below0 : List Frame := [.native { method := ⟨0, 0⟩, args := #[] }]
def about1 : State := aboutOver below0
def p0 : Program := .bare "" "" ""
def e0 : Env := launch0.env 0 0 0
theorem w_frames : about1.frames = Frame.invoking theMethod args0 :: below0 := rfl
set_option maxRecDepth 65536 in
theorem w_args : argsFit about1.vm theMethod args0 = true := by decide +kernel
set_option maxRecDepth 65536 in
theorem w_heap : heapFits about1 = true := by decide +kernel
set_option maxRecDepth 65536 in
theorem w_runnable : about1.curStatus? = some .runnable := by decide +kernel
set_option maxRecDepth 65536 in
theorem w_alone : about1.alone = true := by decide +kernel
set_option maxRecDepth 65536 in
theorem w_named : about1.methodNamed? x = some theMethod := by decide +kernel
set_option maxRecDepth 65536 in
theorem w_hears : about1.hears theMethod below0 = true := by decide +kernel
set_option maxRecDepth 65536 in
theorem w_ripe : about1.ripe theMethod args0 below0 = true := by decide +kernel
theorem w_running : about1.status = .running := rfl
set_option maxRecDepth 65536 in
theorem w_room : about1.hasRoom e0.platform room_1 = true :=
  launch0.hasRoom_least _ room_1 (by decide +kernel) (by decide +kernel) (by decide +kernel) (by decide +kernel) (by decide +kernel) (by decide +kernel)
theorem allAtoms_all (ts : List Jvm.Cond) (a : Array Jvm.Value) (st : Jvm.State) : (allAtoms ts).before a st = ts.all (fun c => c.before a st) := by
  induction ts with
  | nil => rfl
  | cons c t ih =>
    show (Jvm.Cond.and c (allAtoms t)).before a st = _
    rw [Jvm.Cond.before_and, ih, List.all_cons]
def words1 : List Jvm.Cond := Jvm.Cond.code x code maxLocals ret :: tables_1
/-- a 'code' word, met by the world's own term for the bytes: nothing is compared byte by byte -/
theorem code_word {y : MethodName} {bytes : ByteArray} {mx : Nat} {rt : Option FieldType} {a : Array Value} {s : State} {m : MethodId} {meth : Method} {c : Code} (h1 : s.methodNamed? y = some m) (h2 : s.vm.method? m = some meth) (h3 : meth.code = some c) (h4 : c.code = bytes)
    (h5 : (c.maxLocals == mx && c.exceptionTable.isEmpty && decide (c.maxStack ≤ mostOperands) && decide (meth.sig.returnType = rt) && !meth.locks && decide (parseMethodDescriptor y.desc = some meth.sig)) = true) : (Jvm.Cond.code y bytes mx rt).before a s = true := by
  simp only [Bool.and_eq_true, beq_iff_eq, Bool.not_eq_true', decide_eq_true_eq] at h5
  obtain ⟨⟨⟨⟨⟨g1, g2⟩, g3⟩, g4⟩, g5⟩, g6⟩ := h5
  simp [Cond.before, Cond.holds, Cond.value, h1, h2, h3, h4, g1, g2, g3, g4, g5, g6]
def isCode : Jvm.Cond → Bool
  | .code _ _ _ _ => true
  | _ => false
theorem all_split {L : List Jvm.Cond} {P : Jvm.Cond → Bool} (h1 : L.all (fun c => isCode c || P c) = true) (h2 : ∀ c ∈ L.filter isCode, P c = true) : L.all P = true := by
  refine List.all_eq_true.mpr fun c hc => ?_
  have h := List.all_eq_true.mp h1 c hc
  rcases Bool.eq_false_or_eq_true (isCode c) with hi | hi
  · exact h2 c (List.mem_filter.mpr ⟨hc, hi⟩)
  · simpa [hi] using h
set_option maxRecDepth 65536 in
theorem w_c0 : (Jvm.Cond.code x code maxLocals ret).before args0 about1 = true := code_word (m := ⟨1, 1⟩) (meth := k1m1) (c := k1c1) (by decide +kernel) rfl rfl rfl (by decide +kernel)
set_option maxRecDepth 65536 in
theorem w_c1 : (Jvm.Cond.code ({ cls := "com/example/nodearc/nodearc/io/NTriplesGrammar", name := "hexValue", desc := "(C)I" } : Jvm.MethodName) prog_81_method_13_code (2 : Nat) (Option.some Jvm.ClassFile.FieldType.int)).before args0 about1 = true := code_word (m := ⟨8, 1⟩) (meth := k8m1) (c := k8c1) (by decide +kernel) rfl rfl rfl (by decide +kernel)
set_option maxRecDepth 65536 in
theorem w_c2 : (Jvm.Cond.code ({ cls := "java/lang/String", name := "charAt", desc := "(I)C" } : Jvm.MethodName) jdk_42_method_56_code (2 : Nat) (Option.some Jvm.ClassFile.FieldType.char)).before args0 about1 = true := code_word (m := ⟨7, 1⟩) (meth := k7m1) (c := k7c1) (by decide +kernel) rfl rfl rfl (by decide +kernel)
set_option maxRecDepth 65536 in
theorem w_c3 : (Jvm.Cond.code ({ cls := "java/lang/String", name := "isLatin1", desc := "()Z" } : Jvm.MethodName) jdk_42_method_154_code (1 : Nat) (Option.some Jvm.ClassFile.FieldType.boolean)).before args0 about1 = true := code_word (m := ⟨7, 2⟩) (meth := k7m2) (c := k7c2) (by decide +kernel) rfl rfl rfl (by decide +kernel)
set_option maxRecDepth 65536 in
theorem w_c4 : (Jvm.Cond.code ({ cls := "java/lang/StringLatin1", name := "charAt", desc := "([BI)C" } : Jvm.MethodName) jdk_43_method_2_code (2 : Nat) (Option.some Jvm.ClassFile.FieldType.char)).before args0 about1 = true := code_word (m := ⟨9, 1⟩) (meth := k9m1) (c := k9c1) (by decide +kernel) rfl rfl rfl (by decide +kernel)
set_option maxRecDepth 65536 in
theorem w_c5 : (Jvm.Cond.code ({ cls := "java/lang/String", name := "checkIndex", desc := "(II)V" } : Jvm.MethodName) jdk_42_method_155_code (2 : Nat) (Option.none : Option Jvm.ClassFile.FieldType)).before args0 about1 = true := code_word (m := ⟨7, 3⟩) (meth := k7m3) (c := k7c3) (by decide +kernel) rfl rfl rfl (by decide +kernel)
set_option maxRecDepth 65536 in
theorem w_c6 : (Jvm.Cond.code ({ cls := "jdk/internal/util/Preconditions", name := "checkIndex", desc := "(IILjava/util/function/BiFunction;)I" } : Jvm.MethodName) jdk_41_method_11_code (3 : Nat) (Option.some Jvm.ClassFile.FieldType.int)).before args0 about1 = true := code_word (m := ⟨10, 1⟩) (meth := k10m1) (c := k10c1) (by decide +kernel) rfl rfl rfl (by decide +kernel)
def codes1 : List Jvm.Cond := [Jvm.Cond.code x code maxLocals ret, Jvm.Cond.code ({ cls := "com/example/nodearc/nodearc/io/NTriplesGrammar", name := "hexValue", desc := "(C)I" } : Jvm.MethodName) prog_81_method_13_code (2 : Nat) (Option.some Jvm.ClassFile.FieldType.int), Jvm.Cond.code ({ cls := "java/lang/String", name := "charAt", desc := "(I)C" } : Jvm.MethodName) jdk_42_method_56_code (2 : Nat) (Option.some Jvm.ClassFile.FieldType.char), Jvm.Cond.code ({ cls := "java/lang/String", name := "isLatin1", desc := "()Z" } : Jvm.MethodName) jdk_42_method_154_code (1 : Nat) (Option.some Jvm.ClassFile.FieldType.boolean), Jvm.Cond.code ({ cls := "java/lang/StringLatin1", name := "charAt", desc := "([BI)C" } : Jvm.MethodName) jdk_43_method_2_code (2 : Nat) (Option.some Jvm.ClassFile.FieldType.char), Jvm.Cond.code ({ cls := "java/lang/String", name := "checkIndex", desc := "(II)V" } : Jvm.MethodName) jdk_42_method_155_code (2 : Nat) (Option.none : Option Jvm.ClassFile.FieldType), Jvm.Cond.code ({ cls := "jdk/internal/util/Preconditions", name := "checkIndex", desc := "(IILjava/util/function/BiFunction;)I" } : Jvm.MethodName) jdk_41_method_11_code (3 : Nat) (Option.some Jvm.ClassFile.FieldType.int)]
set_option maxRecDepth 65536 in
theorem codes_eq : words1.filter isCode = codes1 := rfl
theorem w_codes : ∀ c ∈ words1.filter isCode, c.before args0 about1 = true := by
  rw [codes_eq]
  intro c hc
  simp only [codes1, List.mem_cons, List.not_mem_nil, or_false] at hc
  rcases hc with rfl | rfl | rfl | rfl | rfl | rfl | rfl
  · exact w_c0
  · exact w_c1
  · exact w_c2
  · exact w_c3
  · exact w_c4
  · exact w_c5
  · exact w_c6
set_option maxRecDepth 65536 in
theorem w_t1 : (words1.take 24).all (fun c => isCode c || c.before args0 about1) = true := by decide +kernel
set_option maxRecDepth 65536 in
theorem w_t2 : (words1.drop 24).all (fun c => isCode c || c.before args0 about1) = true := by decide +kernel
theorem w_tables : (allAtoms (Jvm.Cond.code x code maxLocals ret :: tables_1)).before args0 about1 = true := by
  rw [allAtoms_all]
  show words1.all (fun c => c.before args0 about1) = true
  refine all_split ?_ w_codes
  rw [← List.take_append_drop 24 words1, List.all_append, w_t1, w_t2]
  rfl
set_option maxRecDepth 65536 in
theorem w_rest : rest_1_c.before args0 about1 = true := by decide +kernel
set_option maxRecDepth 65536 in
theorem w_case : (Jvm.Cond.and given_1 narrow_1).before args0 about1 = true := by decide +kernel
set_option maxRecDepth 65536 in
theorem w_consts : constsHeld consts_1 about1 := Jvm.Lit.constsHeldB_iff.mp (by decide +kernel)
theorem w_applies : (headSpec (Jvm.Cond.code x code maxLocals ret :: tables_1) room_1).applies x e0.platform about1 = true :=
  (Spec.applies_iff w_frames).mpr ⟨w_running, w_runnable, w_alone, w_named, w_hears, w_ripe, w_room, w_tables⟩
theorem atStart : AtStart classFile x code maxLocals ret World_1 tables_1 room_1 Calls_1 rest_1 Pre_1 launch0 p0 e0 about1 theMethod args0 below0 :=
  ⟨lists_1, trivial, launch0.admits_env _ _ _, launch0.least_env, fairChoices_fair.cas, fairChoices_fair.clock, w_frames, w_args, w_heap, w_applies, ⟨w_consts, trivial⟩, w_rest, w_case⟩
end start1
theorem witness_1 : WitnessClaimed_1 := ⟨start1.p0, start1.e0, start1.about1, start1.theMethod, start1.args0, start1.below0, start1.atStart⟩
end Jvm.Pilot.@@N@@
