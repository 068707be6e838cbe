import JvmDerived
import JvmDerived.Pilot.@@N@@Statement
import JvmDerived.Pilot.@@N@@Code
set_option linter.unusedVariables false
set_option linter.unusedSimpArgs false
@@BLOCK:NumsL.lean.txt@@
namespace Jvm.RoadKit
open Sem ClassFile Op Lib Jvm.Stand Jvm.Free Jvm.LawKit
section New
variable {p : Program} {l : Launch} {e : Env} {R : Room} {s : State} {m : MethodId} {args : Array Value} {below : List Frame} {meth : Method} {c : Code} {T : State} {locs : List Loc} {cells slots : Nat}
theorem retI (X : Stand p l e R s m args below meth c T locs cells slots) (hx : p.tables.exec = Jvm.exec) {pc : Nat} {Ls : Array Slot} {z : Int32} {rest : List Value} (hret : meth.sig.returnType = some .int) (hd : decode c.code pc = .ok (.ireturn, 1)) {fs : List Frame}
    (hl : ∀ (f : JFrame) (acts : List Action), f.method = m → f.locked = none → f.entered = [] → (doReturn e (T.setTop f) acts (some (.int z))).1 = T.setFrames fs) : Steps p.tables e below (T.setTop (mkF m pc Ls (.int z :: rest))) (T.setFrames fs) := by
  have hm' : T.vm.method? m = some meth := X.method'
  have hn : narrow .int (.int z) = .int z := rfl
  show Steps p.tables e below (T.setTop { method := m, pc := pc, locals := Ls, stack := _ :: rest, locked := none }) _
  jvm_step X.here [X.here.top, hx, hd, hm', hret, hn]
  first | (intro acts; rw [hl _ acts rfl rfl rfl]) | rw [hl _ _ rfl rfl rfl]
  exact Steps.refl _
end New
end Jvm.RoadKit
namespace Jvm.Pilot.@@N@@
open Jvm Jvm.ClassFile Sem Op Lib Jvm.Free Jvm.Stand Jvm.LawKit Jvm.RoadKit Bundle Jvm.Pilot.@@N@@.Jvm.D
theorem pn_0 : plainName "com/example/cormorant/cormorant/job/HttpSyntax" = true := by first | (simp [plainName, overriddenIn]; done) | decide +kernel
theorem pn_1 : plainName "java/lang/StringLatin1" = true := by first | (simp [plainName, overriddenIn]; done) | decide +kernel
theorem pn_2 : plainName "java/lang/String" = true := by first | (simp [plainName, overriddenIn]; done) | decide +kernel
theorem pd_0 : parseMethodDescriptor "()B" = some ⟨[], some .byte⟩ := by decide +kernel
theorem pd_1 : parseMethodDescriptor "(I)Z" = some ⟨[.int], some .boolean⟩ := by decide +kernel
theorem pd_2 : parseMethodDescriptor "(II)I" = some ⟨[.int, .int], some .int⟩ := by decide +kernel
theorem pd_3 : parseMethodDescriptor "([BIII)I" = some ⟨[(.array .byte), .int, .int, .int], some .int⟩ := by decide +kernel
theorem pd_4 : parseMethodDescriptor "()Z" = some ⟨[], some .boolean⟩ := by decide +kernel
theorem pd_5 : parseMethodDescriptor "()I" = some ⟨[], some .int⟩ := by decide +kernel
theorem pd_6 : parseMethodDescriptor "(I)I" = some ⟨[.int], some .int⟩ := by decide +kernel
theorem pn_3 : plainName "com/example/cormorant/cormorant/job/HttpSyntaxIsPrintablePinLaw" = true := by first | (simp [plainName, overriddenIn]; done) | decide +kernel
theorem pd_7 : parseMethodDescriptor "(J)J" = some ⟨[.long], some .long⟩ := by decide +kernel
theorem own_stak {Z : State} {h h' : Heap} {C n d : String} {v : Value} {ws : List Addr} (F : Sta Z h C n d v) (K : Keep h h' ws) (q : ∀ x ∈ ws, ∀ cell : Cell, h[x]? = some cell → cell.vm.isStatics = false) : Sta Z h' C n d v := by
  obtain ⟨cf, i, k, f, st, cell, h1, h2, h3, h4, h5, h6, h7⟩ := F
  exact ⟨cf, i, k, f, st, cell, h1, h2, h3, h4, K.2.1 st cell h5 (fun z => by have r := q st z cell h5; rw [h6] at r; cases r), h6, h7⟩


theorem own_of (n : Nat) (h : n ≤ 4000) : (Int32.ofNat n).toInt = n := by
  have q : (Int32.ofNat n).toInt = (n : Int).bmod (2 ^ 32) := by simp [Int32.toInt_ofNat']
  rw [q, Int.bmod_def]; omega
theorem own_ix {ln : Int32} {cs : List Int32} {i : Nat} (hl : ln = Int32.ofNat cs.length ∧ cs.length ≤ 4000) (hi : i < cs.length) : ¬ Int32.ofNat i < (0 : Int32) ∧ Int32.ofNat i < ln := by
  have e1 := own_of i (by omega); have e2 := own_of cs.length hl.2
  rw [hl.1]
  constructor
  · rw [Int32.lt_iff_toInt_lt, e1, Int32.toInt_zero]; omega
  · rw [Int32.lt_iff_toInt_lt, e1, e2]; omega
theorem own_cl {n : Nat} (h : n ≤ 4000) : (Int32.ofNat n).toNatClampNeg = n := by
  show (Int32.ofNat n).toInt.toNat = n
  rw [own_of n h]; omega
theorem own_bat {ln : Int32} {cs : List Int32} {i : Nat} (hl : ln = Int32.ofNat cs.length ∧ cs.length ≤ 4000) (hi : i < cs.length) : ((cs.map fun c => c.toInt8.toInt32).map Value.int).getD (Int32.ofNat i).toNatClampNeg (.int (0 : Int32)) = .int (cs.getD i 0).toInt8.toInt32 := by
  rw [own_cl (by omega)]
  simp [List.getD_eq_getElem?_getD, hi]
theorem own_byte : ∀ k : Fin 256, nar .char ((((Int32.ofNat k.val).toInt8.toInt32) &&& (255 : Int32)).toUInt32.toUInt16.toUInt32.toInt32) = Int32.ofNat k.val ∧ nar .char (Int32.ofNat k.val) = Int32.ofNat k.val := by decide +kernel
theorem own_lat {c : Int32} (h : ¬ c < 0 ∧ ¬ (255 : Int32) < c) : ∃ k : Fin 256, c = Int32.ofNat k.val := by
  have e : (255 : Int32).toInt = 255 := by decide
  rw [Int32.lt_iff_toInt_lt, Int32.lt_iff_toInt_lt, e, Int32.toInt_zero] at h
  refine ⟨⟨c.toInt.toNat, by omega⟩, Int32.toInt_inj.mp ?_⟩
  rw [own_of _ (show c.toInt.toNat ≤ 4000 by omega)]; omega
theorem own_get {cs : List Int32} {i : Nat} (hcs : ∀ c ∈ cs, ¬ c < 0 ∧ ¬ (255 : Int32) < c) (hi : i < cs.length) : ∃ k : Fin 256, cs.getD i 0 = Int32.ofNat k.val := by
  apply own_lat; apply hcs
  rw [List.getD_eq_getElem?_getD, List.getElem?_eq_getElem hi]; exact List.getElem_mem hi
theorem own_b2c {cs : List Int32} {i : Nat} (hcs : ∀ c ∈ cs, ¬ c < 0 ∧ ¬ (255 : Int32) < c) (hi : i < cs.length) : nar .char ((((cs.getD i 0).toInt8.toInt32) &&& (255 : Int32)).toUInt32.toUInt16.toUInt32.toInt32) = cs.getD i 0 := by
  obtain ⟨k, e⟩ := own_get hcs hi; rw [e]; exact (own_byte k).1
theorem own_charnar {cs : List Int32} {i : Nat} (hcs : ∀ c ∈ cs, ¬ c < 0 ∧ ¬ (255 : Int32) < c) (hi : i < cs.length) : nar .char (cs.getD i 0) = cs.getD i 0 := by
  obtain ⟨k, e⟩ := own_get hcs hi; rw [e]; exact (own_byte k).2

theorem own_sh0 (x : Int32) : x >>> ((0 : Int32) &&& 31) = x := by
  apply Int32.toInt_inj.mp
  rw [Jvm.Kit.i32_shr x ((0 : Int32) &&& 31) (k := 0) (by decide)]; omega
theorem own_nlt {ln : Int32} {cs : List Int32} {i : Nat} (hl : ln = Int32.ofNat cs.length ∧ cs.length ≤ 4000) (hi : i + 0 = cs.length) : ¬ Int32.ofNat i < ln := by
  rw [hl.1, ← hi]; exact fun q => Int32.lt_irrefl q
theorem own_eqb {c d : Int32} (hc : ¬ c < 0 ∧ ¬ (255 : Int32) < c) (hd : ¬ d < 0 ∧ ¬ (255 : Int32) < d) (e : c.toInt8.toInt32 = d.toInt8.toInt32) : c = d := by
  obtain ⟨k, rfl⟩ := own_lat hc
  obtain ⟨j, rfl⟩ := own_lat hd
  have h1 := (own_byte k).1
  rw [e] at h1
  exact h1.symm.trans (own_byte j).1

theorem d1_0 : decode prog_9_method_3_code 0 = .ok (.iload_n 0, 1) := by decide +kernel
theorem d1_1 : decode prog_9_method_3_code 1 = .ok (.bipush 32, 2) := by decide +kernel
theorem d1_3 : decode prog_9_method_3_code 3 = .ok (.if_icmp .lt 13, 3) := by decide +kernel
theorem d1_6 : decode prog_9_method_3_code 6 = .ok (.iload_n 0, 1) := by decide +kernel
theorem d1_7 : decode prog_9_method_3_code 7 = .ok (.bipush 126, 2) := by decide +kernel
theorem d1_9 : decode prog_9_method_3_code 9 = .ok (.if_icmp .gt 7, 3) := by decide +kernel
theorem d1_12 : decode prog_9_method_3_code 12 = .ok (.iconst 1, 1) := by decide +kernel
theorem d1_13 : decode prog_9_method_3_code 13 = .ok (.goto 4, 3) := by decide +kernel
theorem d1_16 : decode prog_9_method_3_code 16 = .ok (.iconst 0, 1) := by decide +kernel
theorem d1_17 : decode prog_9_method_3_code 17 = .ok (.ireturn, 1) := by decide +kernel
def own_f1_16 (p1 : Int32) : Int32 := (0 : Int32)
def own_f1 (p1 : Int32) : Int32 := (if p1 < (32 : Int32) then (own_f1_16 p1 ) else (if (126 : Int32) < p1 then (own_f1_16 p1 ) else (1 : Int32)))
def Q1 (p1 : Int32) (h0 : Heap) (n0 : Nat) (v : Option Value) (h : Heap) (L : List Loc) : Prop := v = some (.int (own_f1 p1)) ∧ Fr n0 L ∧ h = h0
theorem ef_1 (m : MethodId) (x0 : Int32) : entryFrame m #[(.int x0)] 1 = mkF m 0 #[.val (.int x0)] [] := by first | (simp [entryFrame, mkF, argsToLocals, Value.category]; done) | rfl
set_option maxRecDepth 65536 in
set_option maxHeartbeats 40000000 in
theorem rm1 (l : Launch) (Z : State) (a0 : Array Value) (hw : ∀ d ∈ tables_1, d.before a0 Z = true) (ws : List Jvm.Cond) (p1 : Int32) (h0 : Heap) (n0 : Nat) :
    MetFree l (⟨"com/example/cormorant/cormorant/job/HttpSyntax", "isPrintable", "(I)Z"⟩ : MethodName) (head1 (Jvm.Cond.code (⟨"com/example/cormorant/cormorant/job/HttpSyntax", "isPrintable", "(I)Z"⟩ : MethodName) prog_9_method_3_code 1 (some .boolean) :: ws) ({ frames := 0, cells := 0, slots := 0, locals := 0 } : Room)) (fun a U => a = #[(.int p1)] ∧ Z.Warmed39 U.vm ∧ U.heap = h0) (fun _ _ _ _ _ => True) (fun _ U o U' => ∃ v L, o = .returned v ∧ Q1 p1 h0 n0 v U'.heap L ∧ FrameEnd U o U' L ({ frames := 0, cells := 0, slots := 0, locals := 0 } : Room).cells ({ frames := 0, cells := 0, slots := 0, locals := 0 } : Room).slots) := by
  refine MetFree.of_bodySF (plainFor_of_name pn_0) hisR ?_
  intro p e s m args below meth c s₁ Bd hml0 hP hK
  obtain ⟨rfl, hZ, hh⟩ := hP
  have hx := Bd.exec
  have hby := Bd.bytes
  have hml : c.maxLocals = 1 := hml0
  have hown : s.vm.findClass "com/example/cormorant/cormorant/job/HttpSyntax" = some m.cls := findClass_of_methodNamed Bd.named
  have hnm := (name_of_methodNamed Bd.named Bd.method).1
  have X0 : Stand p l e ({ frames := 0, cells := 0, slots := 0, locals := 0 } : Room) s m #[(.int p1)] below meth c s₁ [] 0 0 := Stand.of_body Bd
  have e0 : s₁.heap = h0 := by rw [← hh, Bd.state]; rfl
  have N0 := Fr.nil n0
  have pre0 : ∀ t, Steps p.tables e below (s₁.setTop (mkF m 0 #[.val (.int p1)] [])) t → Steps p.tables e below (s₁.setTop (entryFrame m #[(.int p1)] 1)) t := fun t k => castTop (ef_1 m p1) k
  obtain ⟨fs, hr, hrun, hended, hW, hsame⟩ := X0.leave (v := some (.int (own_f1 p1))) (fun h => by rw [Bd.returns] at h; cases h)
  refine ⟨_, _, pre0 _ ?_, hrun, hended, _, _, rfl, ?_, ⟨_, rfl⟩, hW, hsame.mono (by decide) (by decide)⟩
  · skip
    have J16 : ∀ (hv : own_f1 p1 = own_f1_16 p1 ), Steps p.tables e below (s₁.setTop (mkF m 16 #[.val (.int p1)] [])) (s₁.setFrames fs) := by
      intro hv
      show Steps p.tables e below (s₁.setTop (mkF m 16 #[.val (.int p1)] [])) _
      refine XS.iconst X0.here hx rfl (hb hby d1_16) ?_
      show Steps p.tables e below (s₁.setTop (mkF m 17 #[.val (.int p1)] [(.int (0 : Int32))])) _
      rw [hv] at hr
      exact retN X0 hx (t := .boolean) Bd.returns (by simp) (hb hby d1_17) hr
    have J0 : ∀ (hv : own_f1 p1 = own_f1 p1 ), Steps p.tables e below (s₁.setTop (mkF m 0 #[.val (.int p1)] [])) (s₁.setFrames fs) := by
      intro hv
      show Steps p.tables e below (s₁.setTop (mkF m 0 #[.val (.int p1)] [])) _
      refine XS.iloadN X0.here hx rfl (hb hby d1_0) rfl ?_
      show Steps p.tables e below (s₁.setTop (mkF m 1 #[.val (.int p1)] [(.int p1)])) _
      refine XS.bipush X0.here hx rfl (hb hby d1_1) ?_
      show Steps p.tables e below (s₁.setTop (mkF m 3 #[.val (.int p1)] [(.int (32 : Int32)), (.int p1)])) _
      by_cases hc3 : p1 < (32 : Int32)
      · replace hv := hv.trans (if_pos hc3)
        refine XS.icmpYes X0.here hx rfl (pc0 := 3) (pc' := 16) rfl (hb hby d1_3) rfl (tlt hc3).1 (by decide) (by decide) ?_
        exact J16  hv
      · replace hv := hv.trans (if_neg hc3)
        refine XS.icmpNo X0.here hx rfl (hb hby d1_3) rfl (flt hc3).1 ?_
        show Steps p.tables e below (s₁.setTop (mkF m 6 #[.val (.int p1)] [])) _
        refine XS.iloadN X0.here hx rfl (hb hby d1_6) rfl ?_
        show Steps p.tables e below (s₁.setTop (mkF m 7 #[.val (.int p1)] [(.int p1)])) _
        refine XS.bipush X0.here hx rfl (hb hby d1_7) ?_
        show Steps p.tables e below (s₁.setTop (mkF m 9 #[.val (.int p1)] [(.int (126 : Int32)), (.int p1)])) _
        by_cases hc9 : (126 : Int32) < p1
        · replace hv := hv.trans (if_pos hc9)
          refine XS.icmpYes X0.here hx rfl (pc0 := 9) (pc' := 16) rfl (hb hby d1_9) rfl (tlt hc9).2.2.1 (by decide) (by decide) ?_
          exact J16  hv
        · replace hv := hv.trans (if_neg hc9)
          refine XS.icmpNo X0.here hx rfl (hb hby d1_9) rfl (flt hc9).2.2.1 ?_
          show Steps p.tables e below (s₁.setTop (mkF m 12 #[.val (.int p1)] [])) _
          refine XS.iconst X0.here hx rfl (hb hby d1_12) ?_
          show Steps p.tables e below (s₁.setTop (mkF m 13 #[.val (.int p1)] [(.int (1 : Int32))])) _
          refine XS.goto X0.here hx rfl (pc0 := 13) (pc' := 17) rfl (hb hby d1_13) (by decide) (by decide) ?_
          show Steps p.tables e below (s₁.setTop (mkF m 17 #[.val (.int p1)] [(.int (1 : Int32))])) _
          rw [hv] at hr
          exact retN X0 hx (t := .boolean) Bd.returns (by simp) (hb hby d1_17) hr
    exact J0 rfl
  · show Q1 p1 h0 n0 _ s₁.heap _
    rw [e0]
    exact ⟨rfl, N0, rfl⟩
theorem d2_0 : decode jdk_29_method_61_code 0 = .ok (.lload_n 0, 1) := by decide +kernel
theorem d2_1 : decode jdk_29_method_61_code 1 = .ok (.lconst 0, 1) := by decide +kernel
theorem d2_2 : decode jdk_29_method_61_code 2 = .ok (.lcmp, 1) := by decide +kernel
theorem d2_3 : decode jdk_29_method_61_code 3 = .ok (.ifCond .ge 8, 3) := by decide +kernel
theorem d2_6 : decode jdk_29_method_61_code 6 = .ok (.lload_n 0, 1) := by decide +kernel
theorem d2_7 : decode jdk_29_method_61_code 7 = .ok (.lneg, 1) := by decide +kernel
theorem d2_8 : decode jdk_29_method_61_code 8 = .ok (.goto 4, 3) := by decide +kernel
theorem d2_11 : decode jdk_29_method_61_code 11 = .ok (.lload_n 0, 1) := by decide +kernel
theorem d2_12 : decode jdk_29_method_61_code 12 = .ok (.lreturn, 1) := by decide +kernel
def own_f2 (q1 : Int64) : Int64 := (if (lcmpW q1 (0 : Int64)) < (0 : Int32) then (-q1) else q1)
def Q2 (q1 : Int64) (h0 : Heap) (n0 : Nat) (v : Option Value) (h : Heap) (L : List Loc) : Prop := v = some (.long (own_f2 q1)) ∧ Fr n0 L ∧ h = h0
theorem ef_2 (m : MethodId) (x0 : Int64) : entryFrame m #[(.long x0)] 2 = mkF m 0 #[.val (.long x0), .second] [] := by first | (simp [entryFrame, mkF, argsToLocals, Value.category]; done) | rfl
set_option maxRecDepth 65536 in
set_option maxHeartbeats 40000000 in
theorem rm2 (l : Launch) (Z : State) (a0 : Array Value) (hw : ∀ d ∈ tables_1, d.before a0 Z = true) (ws : List Jvm.Cond) (q1 : Int64) (h0 : Heap) (n0 : Nat) :
    MetFree l (⟨"java/lang/Math", "abs", "(J)J"⟩ : MethodName) (head1 (Jvm.Cond.code (⟨"java/lang/Math", "abs", "(J)J"⟩ : MethodName) jdk_29_method_61_code 2 (some .long) :: ws) ({ frames := 0, cells := 0, slots := 0, locals := 0 } : Room)) (fun a U => a = #[(.long q1)] ∧ Z.Warmed39 U.vm ∧ U.heap = h0) (fun _ _ _ _ _ => True) (fun _ U o U' => ∃ v L, o = .returned v ∧ Q2 q1 h0 n0 v U'.heap L ∧ FrameEnd U o U' L ({ frames := 0, cells := 0, slots := 0, locals := 0 } : Room).cells ({ frames := 0, cells := 0, slots := 0, locals := 0 } : Room).slots) := by
  refine MetFree.of_bodySF (Jvm.Free.JP.mathPlain rfl (by decide +kernel)) hisR ?_
  intro p e s m args below meth c s₁ Bd hml0 hP hK
  obtain ⟨rfl, hZ, hh⟩ := hP
  have hx := Bd.exec
  have hby := Bd.bytes
  have hml : c.maxLocals = 2 := hml0
  have hown : s.vm.findClass "java/lang/Math" = some m.cls := findClass_of_methodNamed Bd.named
  have hnm := (name_of_methodNamed Bd.named Bd.method).1
  have X0 : Stand p l e ({ frames := 0, cells := 0, slots := 0, locals := 0 } : Room) s m #[(.long q1)] below meth c s₁ [] 0 0 := Stand.of_body Bd
  have e0 : s₁.heap = h0 := by rw [← hh, Bd.state]; rfl
  have N0 := Fr.nil n0
  have pre0 : ∀ t, Steps p.tables e below (s₁.setTop (mkF m 0 #[.val (.long q1), .second] [])) t → Steps p.tables e below (s₁.setTop (entryFrame m #[(.long q1)] 2)) t := fun t k => castTop (ef_2 m q1) k
  obtain ⟨fs, hr, hrun, hended, hW, hsame⟩ := X0.leave (v := some (.long (own_f2 q1))) (fun h => by rw [Bd.returns] at h; cases h)
  refine ⟨_, _, pre0 _ ?_, hrun, hended, _, _, rfl, ?_, ⟨_, rfl⟩, hW, hsame.mono (by decide) (by decide)⟩
  · skip
    have J0 : ∀ (hv : own_f2 q1 = own_f2 q1 ), Steps p.tables e below (s₁.setTop (mkF m 0 #[.val (.long q1), .second] [])) (s₁.setFrames fs) := by
      intro hv
      show Steps p.tables e below (s₁.setTop (mkF m 0 #[.val (.long q1), .second] [])) _
      refine XS.lloadN X0.here hx rfl (hb hby d2_0) rfl ?_
      show Steps p.tables e below (s₁.setTop (mkF m 1 #[.val (.long q1), .second] [(.long q1)])) _
      refine XS.lconst X0.here hx rfl (hb hby d2_1) ?_
      show Steps p.tables e below (s₁.setTop (mkF m 2 #[.val (.long q1), .second] [(.long (0 : Int64)), (.long q1)])) _
      refine XS.lcmp X0.here hx rfl (hb hby d2_2) rfl ?_
      show Steps p.tables e below (s₁.setTop (mkF m 3 #[.val (.long q1), .second] [(.int (lcmpW q1 (0 : Int64)))])) _
      by_cases hc3 : (lcmpW q1 (0 : Int64)) < (0 : Int32)
      · replace hv := hv.trans (if_pos hc3)
        refine XS.ifNo X0.here hx rfl (hb hby d2_3) rfl ((if0 _ _).trans (tlt hc3).2.1) ?_
        show Steps p.tables e below (s₁.setTop (mkF m 6 #[.val (.long q1), .second] [])) _
        refine XS.lloadN X0.here hx rfl (hb hby d2_6) rfl ?_
        show Steps p.tables e below (s₁.setTop (mkF m 7 #[.val (.long q1), .second] [(.long q1)])) _
        refine XS.lneg X0.here hx rfl (hb hby d2_7) rfl ?_
        show Steps p.tables e below (s₁.setTop (mkF m 8 #[.val (.long q1), .second] [(.long (-q1))])) _
        refine XS.goto X0.here hx rfl (pc0 := 8) (pc' := 12) rfl (hb hby d2_8) (by decide) (by decide) ?_
        show Steps p.tables e below (s₁.setTop (mkF m 12 #[.val (.long q1), .second] [(.long (-q1))])) _
        rw [hv] at hr
        jvm_step X0.here [X0.here.top, hx, (hb hby d2_12), X0.method', Bd.returns, narrow]
        first | (intro acts; rw [hr _ acts rfl rfl rfl]) | rw [hr _ _ rfl rfl rfl]
        exact Steps.refl _
      · replace hv := hv.trans (if_neg hc3)
        refine XS.ifYes X0.here hx rfl (pc0 := 3) (pc' := 11) rfl (hb hby d2_3) rfl ((if0 _ _).trans (flt hc3).2.1) (by decide) (by decide) ?_
        show Steps p.tables e below (s₁.setTop (mkF m 11 #[.val (.long q1), .second] [])) _
        refine XS.lloadN X0.here hx rfl (hb hby d2_11) rfl ?_
        show Steps p.tables e below (s₁.setTop (mkF m 12 #[.val (.long q1), .second] [(.long q1)])) _
        rw [hv] at hr
        jvm_step X0.here [X0.here.top, hx, (hb hby d2_12), X0.method', Bd.returns, narrow]
        first | (intro acts; rw [hr _ acts rfl rfl rfl]) | rw [hr _ _ rfl rfl rfl]
        exact Steps.refl _
    exact J0 rfl
  · show Q2 q1 h0 n0 _ s₁.heap _
    rw [e0]
    exact ⟨rfl, N0, rfl⟩
theorem d10_0 : decode jdk_43_method_4_code 0 = .ok (.iload_n 0, 1) := by decide +kernel
theorem d10_1 : decode jdk_43_method_4_code 1 = .ok (.ifCond .lt 14, 3) := by decide +kernel
theorem d10_4 : decode jdk_43_method_4_code 4 = .ok (.iload_n 0, 1) := by decide +kernel
theorem d10_5 : decode jdk_43_method_4_code 5 = .ok (.sipush 255, 3) := by decide +kernel
theorem d10_8 : decode jdk_43_method_4_code 8 = .ok (.if_icmp .gt 7, 3) := by decide +kernel
theorem d10_11 : decode jdk_43_method_4_code 11 = .ok (.iconst 1, 1) := by decide +kernel
theorem d10_12 : decode jdk_43_method_4_code 12 = .ok (.goto 4, 3) := by decide +kernel
theorem d10_15 : decode jdk_43_method_4_code 15 = .ok (.iconst 0, 1) := by decide +kernel
theorem d10_16 : decode jdk_43_method_4_code 16 = .ok (.ireturn, 1) := by decide +kernel
def own_f10_15 (p1 : Int32) : Int32 := (0 : Int32)
def own_f10 (p1 : Int32) : Int32 := (if p1 < (0 : Int32) then (own_f10_15 p1 ) else (if (255 : Int32) < p1 then (own_f10_15 p1 ) else (1 : Int32)))
def Q10 (p1 : Int32) (h0 : Heap) (n0 : Nat) (v : Option Value) (h : Heap) (L : List Loc) : Prop := v = some (.int (own_f10 p1)) ∧ Fr n0 L ∧ h = h0
theorem ef_10 (m : MethodId) (x0 : Int32) : entryFrame m #[(.int x0)] 1 = mkF m 0 #[.val (.int x0)] [] := by first | (simp [entryFrame, mkF, argsToLocals, Value.category]; done) | rfl
set_option maxRecDepth 65536 in
set_option maxHeartbeats 40000000 in
theorem rm10 (l : Launch) (Z : State) (a0 : Array Value) (hw : ∀ d ∈ tables_1, d.before a0 Z = true) (ws : List Jvm.Cond) (p1 : Int32) (h0 : Heap) (n0 : Nat) :
    MetFree l (⟨"java/lang/StringLatin1", "canEncode", "(I)Z"⟩ : MethodName) (head1 (Jvm.Cond.code (⟨"java/lang/StringLatin1", "canEncode", "(I)Z"⟩ : MethodName) jdk_43_method_4_code 1 (some .boolean) :: ws) ({ frames := 0, cells := 0, slots := 0, locals := 0 } : Room)) (fun a U => a = #[(.int p1)] ∧ Z.Warmed39 U.vm ∧ U.heap = h0) (fun _ _ _ _ _ => True) (fun _ U o U' => ∃ v L, o = .returned v ∧ Q10 p1 h0 n0 v U'.heap L ∧ FrameEnd U o U' L ({ frames := 0, cells := 0, slots := 0, locals := 0 } : Room).cells ({ frames := 0, cells := 0, slots := 0, locals := 0 } : Room).slots) := by
  refine MetFree.of_bodySF (plainFor_of_name pn_1) hisR ?_
  intro p e s m args below meth c s₁ Bd hml0 hP hK
  obtain ⟨rfl, hZ, hh⟩ := hP
  have hx := Bd.exec
  have hby := Bd.bytes
  have hml : c.maxLocals = 1 := hml0
  have hown : s.vm.findClass "java/lang/StringLatin1" = some m.cls := findClass_of_methodNamed Bd.named
  have hnm := (name_of_methodNamed Bd.named Bd.method).1
  have X0 : Stand p l e ({ frames := 0, cells := 0, slots := 0, locals := 0 } : Room) s m #[(.int p1)] below meth c s₁ [] 0 0 := Stand.of_body Bd
  have e0 : s₁.heap = h0 := by rw [← hh, Bd.state]; rfl
  have N0 := Fr.nil n0
  have pre0 : ∀ t, Steps p.tables e below (s₁.setTop (mkF m 0 #[.val (.int p1)] [])) t → Steps p.tables e below (s₁.setTop (entryFrame m #[(.int p1)] 1)) t := fun t k => castTop (ef_10 m p1) k
  obtain ⟨fs, hr, hrun, hended, hW, hsame⟩ := X0.leave (v := some (.int (own_f10 p1))) (fun h => by rw [Bd.returns] at h; cases h)
  refine ⟨_, _, pre0 _ ?_, hrun, hended, _, _, rfl, ?_, ⟨_, rfl⟩, hW, hsame.mono (by decide) (by decide)⟩
  · skip
    have J15 : ∀ (hv : own_f10 p1 = own_f10_15 p1 ), Steps p.tables e below (s₁.setTop (mkF m 15 #[.val (.int p1)] [])) (s₁.setFrames fs) := by
      intro hv
      show Steps p.tables e below (s₁.setTop (mkF m 15 #[.val (.int p1)] [])) _
      refine XS.iconst X0.here hx rfl (hb hby d10_15) ?_
      show Steps p.tables e below (s₁.setTop (mkF m 16 #[.val (.int p1)] [(.int (0 : Int32))])) _
      rw [hv] at hr
      exact retN X0 hx (t := .boolean) Bd.returns (by simp) (hb hby d10_16) hr
    have J0 : ∀ (hv : own_f10 p1 = own_f10 p1 ), Steps p.tables e below (s₁.setTop (mkF m 0 #[.val (.int p1)] [])) (s₁.setFrames fs) := by
      intro hv
      show Steps p.tables e below (s₁.setTop (mkF m 0 #[.val (.int p1)] [])) _
      refine XS.iloadN X0.here hx rfl (hb hby d10_0) rfl ?_
      show Steps p.tables e below (s₁.setTop (mkF m 1 #[.val (.int p1)] [(.int p1)])) _
      by_cases hc1 : p1 < (0 : Int32)
      · replace hv := hv.trans (if_pos hc1)
        refine XS.ifYes X0.here hx rfl (pc0 := 1) (pc' := 15) rfl (hb hby d10_1) rfl ((if0 _ _).trans (tlt hc1).1) (by decide) (by decide) ?_
        exact J15  hv
      · replace hv := hv.trans (if_neg hc1)
        refine XS.ifNo X0.here hx rfl (hb hby d10_1) rfl ((if0 _ _).trans (flt hc1).1) ?_
        show Steps p.tables e below (s₁.setTop (mkF m 4 #[.val (.int p1)] [])) _
        refine XS.iloadN X0.here hx rfl (hb hby d10_4) rfl ?_
        show Steps p.tables e below (s₁.setTop (mkF m 5 #[.val (.int p1)] [(.int p1)])) _
        refine XS.sipush X0.here hx rfl (hb hby d10_5) ?_
        show Steps p.tables e below (s₁.setTop (mkF m 8 #[.val (.int p1)] [(.int (255 : Int32)), (.int p1)])) _
        by_cases hc8 : (255 : Int32) < p1
        · replace hv := hv.trans (if_pos hc8)
          refine XS.icmpYes X0.here hx rfl (pc0 := 8) (pc' := 15) rfl (hb hby d10_8) rfl (tlt hc8).2.2.1 (by decide) (by decide) ?_
          exact J15  hv
        · replace hv := hv.trans (if_neg hc8)
          refine XS.icmpNo X0.here hx rfl (hb hby d10_8) rfl (flt hc8).2.2.1 ?_
          show Steps p.tables e below (s₁.setTop (mkF m 11 #[.val (.int p1)] [])) _
          refine XS.iconst X0.here hx rfl (hb hby d10_11) ?_
          show Steps p.tables e below (s₁.setTop (mkF m 12 #[.val (.int p1)] [(.int (1 : Int32))])) _
          refine XS.goto X0.here hx rfl (pc0 := 12) (pc' := 16) rfl (hb hby d10_12) (by decide) (by decide) ?_
          show Steps p.tables e below (s₁.setTop (mkF m 16 #[.val (.int p1)] [(.int (1 : Int32))])) _
          rw [hv] at hr
          exact retN X0 hx (t := .boolean) Bd.returns (by simp) (hb hby d10_16) hr
    exact J0 rfl
  · show Q10 p1 h0 n0 _ s₁.heap _
    rw [e0]
    exact ⟨rfl, N0, rfl⟩
theorem d11_0 : decode jdk_29_method_65_code 0 = .ok (.iload_n 0, 1) := by decide +kernel
theorem d11_1 : decode jdk_29_method_65_code 1 = .ok (.iload_n 1, 1) := by decide +kernel
theorem d11_2 : decode jdk_29_method_65_code 2 = .ok (.if_icmp .lt 7, 3) := by decide +kernel
theorem d11_5 : decode jdk_29_method_65_code 5 = .ok (.iload_n 0, 1) := by decide +kernel
theorem d11_6 : decode jdk_29_method_65_code 6 = .ok (.goto 4, 3) := by decide +kernel
theorem d11_9 : decode jdk_29_method_65_code 9 = .ok (.iload_n 1, 1) := by decide +kernel
theorem d11_10 : decode jdk_29_method_65_code 10 = .ok (.ireturn, 1) := by decide +kernel
def own_f11 (p1 : Int32) (p2 : Int32) : Int32 := (if p1 < p2 then p2 else p1)
def Q11 (p1 : Int32) (p2 : Int32) (h0 : Heap) (n0 : Nat) (v : Option Value) (h : Heap) (L : List Loc) : Prop := v = some (.int (own_f11 p1 p2)) ∧ Fr n0 L ∧ h = h0
theorem ef_11 (m : MethodId) (x0 : Int32) (x1 : Int32) : entryFrame m #[(.int x0), (.int x1)] 2 = mkF m 0 #[.val (.int x0), .val (.int x1)] [] := by first | (simp [entryFrame, mkF, argsToLocals, Value.category]; done) | rfl
set_option maxRecDepth 65536 in
set_option maxHeartbeats 40000000 in
theorem rm11 (l : Launch) (Z : State) (a0 : Array Value) (hw : ∀ d ∈ tables_1, d.before a0 Z = true) (ws : List Jvm.Cond) (p1 : Int32) (p2 : Int32) (h0 : Heap) (n0 : Nat) :
    MetFree l (⟨"java/lang/Math", "max", "(II)I"⟩ : MethodName) (head1 (Jvm.Cond.code (⟨"java/lang/Math", "max", "(II)I"⟩ : MethodName) jdk_29_method_65_code 2 (some .int) :: ws) ({ frames := 0, cells := 0, slots := 0, locals := 0 } : Room)) (fun a U => a = #[(.int p1), (.int p2)] ∧ Z.Warmed39 U.vm ∧ U.heap = h0) (fun _ _ _ _ _ => True) (fun _ U o U' => ∃ v L, o = .returned v ∧ Q11 p1 p2 h0 n0 v U'.heap L ∧ FrameEnd U o U' L ({ frames := 0, cells := 0, slots := 0, locals := 0 } : Room).cells ({ frames := 0, cells := 0, slots := 0, locals := 0 } : Room).slots) := by
  refine MetFree.of_bodySF (Jvm.Free.JP.mathPlain rfl (by decide +kernel)) hisR ?_
  intro p e s m args below meth c s₁ Bd hml0 hP hK
  obtain ⟨rfl, hZ, hh⟩ := hP
  have hx := Bd.exec
  have hby := Bd.bytes
  have hml : c.maxLocals = 2 := hml0
  have hown : s.vm.findClass "java/lang/Math" = some m.cls := findClass_of_methodNamed Bd.named
  have hnm := (name_of_methodNamed Bd.named Bd.method).1
  have X0 : Stand p l e ({ frames := 0, cells := 0, slots := 0, locals := 0 } : Room) s m #[(.int p1), (.int p2)] below meth c s₁ [] 0 0 := Stand.of_body Bd
  have e0 : s₁.heap = h0 := by rw [← hh, Bd.state]; rfl
  have N0 := Fr.nil n0
  have pre0 : ∀ t, Steps p.tables e below (s₁.setTop (mkF m 0 #[.val (.int p1), .val (.int p2)] [])) t → Steps p.tables e below (s₁.setTop (entryFrame m #[(.int p1), (.int p2)] 2)) t := fun t k => castTop (ef_11 m p1 p2) k
  obtain ⟨fs, hr, hrun, hended, hW, hsame⟩ := X0.leave (v := some (.int (own_f11 p1 p2))) (fun h => by rw [Bd.returns] at h; cases h)
  refine ⟨_, _, pre0 _ ?_, hrun, hended, _, _, rfl, ?_, ⟨_, rfl⟩, hW, hsame.mono (by decide) (by decide)⟩
  · skip
    have J0 : ∀ (hv : own_f11 p1 p2 = own_f11 p1 p2 ), Steps p.tables e below (s₁.setTop (mkF m 0 #[.val (.int p1), .val (.int p2)] [])) (s₁.setFrames fs) := by
      intro hv
      show Steps p.tables e below (s₁.setTop (mkF m 0 #[.val (.int p1), .val (.int p2)] [])) _
      refine XS.iloadN X0.here hx rfl (hb hby d11_0) rfl ?_
      show Steps p.tables e below (s₁.setTop (mkF m 1 #[.val (.int p1), .val (.int p2)] [(.int p1)])) _
      refine XS.iloadN X0.here hx rfl (hb hby d11_1) rfl ?_
      show Steps p.tables e below (s₁.setTop (mkF m 2 #[.val (.int p1), .val (.int p2)] [(.int p2), (.int p1)])) _
      by_cases hc2 : p1 < p2
      · replace hv := hv.trans (if_pos hc2)
        refine XS.icmpYes X0.here hx rfl (pc0 := 2) (pc' := 9) rfl (hb hby d11_2) rfl (tlt hc2).1 (by decide) (by decide) ?_
        show Steps p.tables e below (s₁.setTop (mkF m 9 #[.val (.int p1), .val (.int p2)] [])) _
        refine XS.iloadN X0.here hx rfl (hb hby d11_9) rfl ?_
        show Steps p.tables e below (s₁.setTop (mkF m 10 #[.val (.int p1), .val (.int p2)] [(.int p2)])) _
        rw [hv] at hr
        exact retI X0 hx Bd.returns (hb hby d11_10) hr
      · replace hv := hv.trans (if_neg hc2)
        refine XS.icmpNo X0.here hx rfl (hb hby d11_2) rfl (flt hc2).1 ?_
        show Steps p.tables e below (s₁.setTop (mkF m 5 #[.val (.int p1), .val (.int p2)] [])) _
        refine XS.iloadN X0.here hx rfl (hb hby d11_5) rfl ?_
        show Steps p.tables e below (s₁.setTop (mkF m 6 #[.val (.int p1), .val (.int p2)] [(.int p1)])) _
        refine XS.goto X0.here hx rfl (pc0 := 6) (pc' := 10) rfl (hb hby d11_6) (by decide) (by decide) ?_
        show Steps p.tables e below (s₁.setTop (mkF m 10 #[.val (.int p1), .val (.int p2)] [(.int p1)])) _
        rw [hv] at hr
        exact retI X0 hx Bd.returns (hb hby d11_10) hr
    exact J0 rfl
  · show Q11 p1 p2 h0 n0 _ s₁.heap _
    rw [e0]
    exact ⟨rfl, N0, rfl⟩
theorem d12_0 : decode jdk_29_method_69_code 0 = .ok (.iload_n 0, 1) := by decide +kernel
theorem d12_1 : decode jdk_29_method_69_code 1 = .ok (.iload_n 1, 1) := by decide +kernel
theorem d12_2 : decode jdk_29_method_69_code 2 = .ok (.if_icmp .gt 7, 3) := by decide +kernel
theorem d12_5 : decode jdk_29_method_69_code 5 = .ok (.iload_n 0, 1) := by decide +kernel
theorem d12_6 : decode jdk_29_method_69_code 6 = .ok (.goto 4, 3) := by decide +kernel
theorem d12_9 : decode jdk_29_method_69_code 9 = .ok (.iload_n 1, 1) := by decide +kernel
theorem d12_10 : decode jdk_29_method_69_code 10 = .ok (.ireturn, 1) := by decide +kernel
def own_f12 (p1 : Int32) (p2 : Int32) : Int32 := (if p2 < p1 then p2 else p1)
def Q12 (p1 : Int32) (p2 : Int32) (h0 : Heap) (n0 : Nat) (v : Option Value) (h : Heap) (L : List Loc) : Prop := v = some (.int (own_f12 p1 p2)) ∧ Fr n0 L ∧ h = h0
theorem ef_12 (m : MethodId) (x0 : Int32) (x1 : Int32) : entryFrame m #[(.int x0), (.int x1)] 2 = mkF m 0 #[.val (.int x0), .val (.int x1)] [] := by first | (simp [entryFrame, mkF, argsToLocals, Value.category]; done) | rfl
set_option maxRecDepth 65536 in
set_option maxHeartbeats 40000000 in
theorem rm12 (l : Launch) (Z : State) (a0 : Array Value) (hw : ∀ d ∈ tables_1, d.before a0 Z = true) (ws : List Jvm.Cond) (p1 : Int32) (p2 : Int32) (h0 : Heap) (n0 : Nat) :
    MetFree l (⟨"java/lang/Math", "min", "(II)I"⟩ : MethodName) (head1 (Jvm.Cond.code (⟨"java/lang/Math", "min", "(II)I"⟩ : MethodName) jdk_29_method_69_code 2 (some .int) :: ws) ({ frames := 0, cells := 0, slots := 0, locals := 0 } : Room)) (fun a U => a = #[(.int p1), (.int p2)] ∧ Z.Warmed39 U.vm ∧ U.heap = h0) (fun _ _ _ _ _ => True) (fun _ U o U' => ∃ v L, o = .returned v ∧ Q12 p1 p2 h0 n0 v U'.heap L ∧ FrameEnd U o U' L ({ frames := 0, cells := 0, slots := 0, locals := 0 } : Room).cells ({ frames := 0, cells := 0, slots := 0, locals := 0 } : Room).slots) := by
  refine MetFree.of_bodySF (Jvm.Free.JP.mathPlain rfl (by decide +kernel)) hisR ?_
  intro p e s m args below meth c s₁ Bd hml0 hP hK
  obtain ⟨rfl, hZ, hh⟩ := hP
  have hx := Bd.exec
  have hby := Bd.bytes
  have hml : c.maxLocals = 2 := hml0
  have hown : s.vm.findClass "java/lang/Math" = some m.cls := findClass_of_methodNamed Bd.named
  have hnm := (name_of_methodNamed Bd.named Bd.method).1
  have X0 : Stand p l e ({ frames := 0, cells := 0, slots := 0, locals := 0 } : Room) s m #[(.int p1), (.int p2)] below meth c s₁ [] 0 0 := Stand.of_body Bd
  have e0 : s₁.heap = h0 := by rw [← hh, Bd.state]; rfl
  have N0 := Fr.nil n0
  have pre0 : ∀ t, Steps p.tables e below (s₁.setTop (mkF m 0 #[.val (.int p1), .val (.int p2)] [])) t → Steps p.tables e below (s₁.setTop (entryFrame m #[(.int p1), (.int p2)] 2)) t := fun t k => castTop (ef_12 m p1 p2) k
  obtain ⟨fs, hr, hrun, hended, hW, hsame⟩ := X0.leave (v := some (.int (own_f12 p1 p2))) (fun h => by rw [Bd.returns] at h; cases h)
  refine ⟨_, _, pre0 _ ?_, hrun, hended, _, _, rfl, ?_, ⟨_, rfl⟩, hW, hsame.mono (by decide) (by decide)⟩
  · skip
    have J0 : ∀ (hv : own_f12 p1 p2 = own_f12 p1 p2 ), Steps p.tables e below (s₁.setTop (mkF m 0 #[.val (.int p1), .val (.int p2)] [])) (s₁.setFrames fs) := by
      intro hv
      show Steps p.tables e below (s₁.setTop (mkF m 0 #[.val (.int p1), .val (.int p2)] [])) _
      refine XS.iloadN X0.here hx rfl (hb hby d12_0) rfl ?_
      show Steps p.tables e below (s₁.setTop (mkF m 1 #[.val (.int p1), .val (.int p2)] [(.int p1)])) _
      refine XS.iloadN X0.here hx rfl (hb hby d12_1) rfl ?_
      show Steps p.tables e below (s₁.setTop (mkF m 2 #[.val (.int p1), .val (.int p2)] [(.int p2), (.int p1)])) _
      by_cases hc2 : p2 < p1
      · replace hv := hv.trans (if_pos hc2)
        refine XS.icmpYes X0.here hx rfl (pc0 := 2) (pc' := 9) rfl (hb hby d12_2) rfl (tlt hc2).2.2.1 (by decide) (by decide) ?_
        show Steps p.tables e below (s₁.setTop (mkF m 9 #[.val (.int p1), .val (.int p2)] [])) _
        refine XS.iloadN X0.here hx rfl (hb hby d12_9) rfl ?_
        show Steps p.tables e below (s₁.setTop (mkF m 10 #[.val (.int p1), .val (.int p2)] [(.int p2)])) _
        rw [hv] at hr
        exact retI X0 hx Bd.returns (hb hby d12_10) hr
      · replace hv := hv.trans (if_neg hc2)
        refine XS.icmpNo X0.here hx rfl (hb hby d12_2) rfl (flt hc2).2.2.1 ?_
        show Steps p.tables e below (s₁.setTop (mkF m 5 #[.val (.int p1), .val (.int p2)] [])) _
        refine XS.iloadN X0.here hx rfl (hb hby d12_5) rfl ?_
        show Steps p.tables e below (s₁.setTop (mkF m 6 #[.val (.int p1), .val (.int p2)] [(.int p1)])) _
        refine XS.goto X0.here hx rfl (pc0 := 6) (pc' := 10) rfl (hb hby d12_6) (by decide) (by decide) ?_
        show Steps p.tables e below (s₁.setTop (mkF m 10 #[.val (.int p1), .val (.int p2)] [(.int p1)])) _
        rw [hv] at hr
        exact retI X0 hx Bd.returns (hb hby d12_10) hr
    exact J0 rfl
  · show Q12 p1 p2 h0 n0 _ s₁.heap _
    rw [e0]
    exact ⟨rfl, N0, rfl⟩

theorem own_max0 : own_f11 (0 : Int32) (0 : Int32) = (0 : Int32) := by decide
theorem own_minL (x : Int32) : own_f12 x x = x := by unfold own_f12; split <;> rfl
theorem own_enc {c : Int32} (h : ¬ own_f10 c = 0) : ¬ c < 0 ∧ ¬ (255 : Int32) < c := by
  constructor
  · intro q; apply h; unfold own_f10; rw [if_pos q]; rfl
  · intro q; apply h; unfold own_f10
    by_cases r : c < 0
    · rw [if_pos r]; rfl
    · rw [if_neg r, if_pos q]; rfl
theorem own_ior {cs : List Int32} {p rz : Int32} (hcs : ∀ c ∈ cs, ¬ c < 0 ∧ ¬ (255 : Int32) < c) (he : ¬ own_f10 p = 0) (r : rz < 0 ∨ ∃ i, i < cs.length ∧ (cs.getD i 0).toInt8.toInt32 = p.toInt8.toInt32) : rz < 0 ∨ p ∈ cs := by
  rcases r with r | ⟨i, hi, e⟩
  · exact Or.inl r
  · have hm : cs.getD i 0 ∈ cs := by rw [List.getD_eq_getElem?_getD, List.getElem?_eq_getElem hi]; exact List.getElem_mem hi
    have := own_eqb (hcs _ hm) (own_enc he) e
    rw [← this]; exact Or.inr hm

def own_t14 : String := match (tables_1[14]? : Option Jvm.Cond) with | some (Jvm.Cond.stringLink _ _ t) => t | _ => ""
def own_cs14 : List Int32 := own_t14.toList.map fun c => Int32.ofNat c.toNat
theorem own_ht14 : (∀ c ∈ own_t14.toList, c.toNat < 256) ∧ own_t14.toList.map (fun c => Value.int (Jvm.Lit.byteI c.toNat.toUInt16)) = (own_cs14.map fun c => c.toInt8.toInt32).map Value.int := ⟨by decide +kernel, by decide +kernel⟩
theorem own_len14 : own_cs14.length = 15 := by decide +kernel
theorem own_hbd14 : ∀ c ∈ own_cs14, ¬ c < 0 ∧ ¬ (65535 : Int32) < c := by decide +kernel
abbrev EL : List (String × Nat) := consts_1
theorem own_EW {Z : State} {a0 : Array Value} (hw : ∀ d ∈ tables_1, d.before a0 Z = true) : EW Z a0 EL := (EW.cons (hw _ (List.mem_of_getElem? (i := 14) rfl)) (by decide +kernel) EW.nil)
theorem own_mem14 : ("com/example/cormorant/cormorant/job/HttpSyntax", 9) ∈ EL := List.mem_of_getElem? (i := 0) rfl
theorem own_hl14 : (15 : Int32) = Int32.ofNat own_cs14.length ∧ own_cs14.length ≤ 4000 := by rw [own_len14]; exact ⟨rfl, by decide⟩
theorem own_hc14 : ∀ c ∈ own_cs14, ¬ c < 0 ∧ ¬ (255 : Int32) < c := by decide +kernel

theorem own_absI (y : Int64) (h : y.toInt ≠ -2 ^ 63) : (own_f2 y).toInt = if y.toInt < 0 then - y.toInt else y.toInt := by
  have q : lcmpW y (0 : Int64) < (0 : Int32) ↔ y.toInt < 0 := by rw [lcW, lc_lt, Int64.lt_iff_toInt_lt, Int64.toInt_zero]
  unfold own_f2
  by_cases r : y.toInt < 0
  · rw [if_pos (q.mpr r), if_pos r]; exact Jvm.Kit.i64_neg h
  · rw [if_neg (fun z => r (q.mp z)), if_neg r]
theorem own_pr {c : Int32} (h1 : ¬ c < (32 : Int32)) (h2 : ¬ (126 : Int32) < c) : own_f1 c = 1 := by
  unfold own_f1; rw [if_neg h1, if_neg h2]
theorem own_pe (c : Int32) : own_f1 c = if (0 : Int32) < (lcmpW (own_f2 (((2 : Int64) * (c.toInt64)) - (158 : Int64))) (94 : Int64)) then (0 : Int32) else (1 : Int32) := by
  have a := c.toInt_lt; have b := c.le_toInt
  have e1 : (c.toInt64).toInt = c.toInt := Jvm.Kit.i64_of_i32 c
  have k2 : (2 : Int64).toInt = 2 := by decide
  have k158 : (158 : Int64).toInt = 158 := by decide
  have k94 : (94 : Int64).toInt = 94 := by decide
  have k32 : (32 : Int32).toInt = 32 := by decide
  have k126 : (126 : Int32).toInt = 126 := by decide
  have e2 : ((2 : Int64) * c.toInt64).toInt = 2 * c.toInt := by
    have := Jvm.Kit.i64_mul (x := 2) (y := c.toInt64) (by rw [k2, e1]; omega) (by rw [k2, e1]; omega)
    rw [this, k2, e1]
  have e3 : (((2 : Int64) * c.toInt64) - (158 : Int64)).toInt = 2 * c.toInt - 158 := by
    have := Jvm.Kit.i64_sub (x := (2 : Int64) * c.toInt64) (y := 158) (by rw [e2, k158]; omega) (by rw [e2, k158]; omega)
    rw [this, e2, k158]
  have e4 := own_absI (((2 : Int64) * c.toInt64) - (158 : Int64)) (by rw [e3]; omega)
  rw [e3] at e4
  have e5 : (0 : Int32) < (lcmpW (own_f2 (((2 : Int64) * (c.toInt64)) - (158 : Int64))) (94 : Int64)) ↔ (c.toInt < 32 ∨ 126 < c.toInt) := by
    rw [lcW, lc_gt, Int64.lt_iff_toInt_lt, e4, k94]; split <;> omega
  by_cases h1 : c < (32 : Int32)
  · have z := h1; rw [Int32.lt_iff_toInt_lt, k32] at z
    rw [if_pos (e5.mpr (Or.inl z))]; unfold own_f1; rw [if_pos h1]; rfl
  · by_cases h2 : (126 : Int32) < c
    · have z := h2; rw [Int32.lt_iff_toInt_lt, k126] at z
      rw [if_pos (e5.mpr (Or.inr z))]; unfold own_f1; rw [if_neg h1, if_pos h2]; rfl
    · have z1 := h1; have z2 := h2; rw [Int32.lt_iff_toInt_lt, k32] at z1; rw [Int32.lt_iff_toInt_lt, k126] at z2
      rw [if_neg (fun q => by have := e5.mp q; omega), own_pr h1 h2]

theorem own_tokS {c : Int32} (h : c ∈ own_cs14) : (1 : Int32) = 0 ∨ (¬ c < (32 : Int32) ∧ ¬ (126 : Int32) < c) := Or.inr ((by decide +kernel : ∀ c ∈ own_cs14, ¬ c < (32 : Int32) ∧ ¬ (126 : Int32) < c) c h)
theorem own_tokR {c a b : Int32} (h1 : ¬ c < a) (h2 : ¬ b < c) (ha : ¬ a < (32 : Int32) := by decide) (hb : ¬ (126 : Int32) < b := by decide) : (1 : Int32) = 0 ∨ (¬ c < (32 : Int32) ∧ ¬ (126 : Int32) < c) := by
  right
  rw [Int32.lt_iff_toInt_lt] at h1 h2 ha hb
  exact ⟨by rw [Int32.lt_iff_toInt_lt]; omega, by rw [Int32.lt_iff_toInt_lt]; omega⟩

def Qrm6 (Z : State) (a1 : Addr) (cz : Int32) (h0 : Heap) (n0 : Nat) (v : Option Value) (h : Heap) (L : List Loc) : Prop := v = some (.int (1 : Int32)) ∧ Fr n0 L ∧ h = h0
theorem d6_0 : decode jdk_42_method_154_code 0 = .ok (.getstatic 38, 3) := by decide +kernel
theorem d6_3 : decode jdk_42_method_154_code 3 = .ok (.ifCond .eq 14, 3) := by decide +kernel
theorem d6_6 : decode jdk_42_method_154_code 6 = .ok (.aload_n 0, 1) := by decide +kernel
theorem d6_7 : decode jdk_42_method_154_code 7 = .ok (.getfield 15, 3) := by decide +kernel
theorem d6_10 : decode jdk_42_method_154_code 10 = .ok (.ifCond .ne 7, 3) := by decide +kernel
theorem d6_13 : decode jdk_42_method_154_code 13 = .ok (.iconst 1, 1) := by decide +kernel
theorem d6_14 : decode jdk_42_method_154_code 14 = .ok (.goto 4, 3) := by decide +kernel
theorem d6_18 : decode jdk_42_method_154_code 18 = .ok (.ireturn, 1) := by decide +kernel
theorem ef_6 (m : MethodId) (x0 : Addr) : entryFrame m #[(.ref x0)] 1 = mkF m 0 #[.val (.ref x0)] [] := by first | (simp [entryFrame, mkF, argsToLocals, Value.category]; done) | rfl
set_option maxRecDepth 65536 in
set_option maxHeartbeats 40000000 in
theorem rm6 (l : Launch) (Z : State) (a0 : Array Value) (hw : ∀ d ∈ tables_1, d.before a0 Z = true) (ws : List Jvm.Cond) (a1 : Addr) (cz : Int32) (h0 : Heap) (n0 : Nat) (Z0 : n0 ≤ h0.size) (ST_COMPACT_STRINGS : Sta Z h0 "java/lang/String" "COMPACT_STRINGS" "Z" (.int cz)) (F_coder_a1 : Fld Z h0 a1 "java/lang/String" "coder" "B" (.int (0 : Int32))) (hCS : ¬ (cz = (0 : Int32))) :
    MetFree l (⟨"java/lang/String", "isLatin1", "()Z"⟩ : MethodName) (head1 (Jvm.Cond.code (⟨"java/lang/String", "isLatin1", "()Z"⟩ : MethodName) jdk_42_method_154_code 1 (some .boolean) :: ws) ({ frames := 0, cells := 0, slots := 0, locals := 0 } : Room)) (fun a U => a = #[(.ref a1)] ∧ Z.Warmed39 U.vm ∧ U.heap = h0) (fun _ _ _ _ _ => True) (fun _ U o U' => ∃ v L, o = .returned v ∧ Qrm6 Z a1 cz h0 n0 v U'.heap L ∧ FrameEnd U o U' L ({ frames := 0, cells := 0, slots := 0, locals := 0 } : Room).cells ({ frames := 0, cells := 0, slots := 0, locals := 0 } : Room).slots) := by
  refine MetFree.of_bodySF (plainFor_of_name pn_2) hisR ?_
  intro p e s m args below meth c s₁ Bd hml0 hP hK
  obtain ⟨rfl, hZ, hh⟩ := hP
  have hx := Bd.exec
  have hby := Bd.bytes
  have hml : c.maxLocals = 1 := hml0
  have hown : s.vm.findClass "java/lang/String" = some m.cls := findClass_of_methodNamed Bd.named
  have hnm := (name_of_methodNamed Bd.named Bd.method).1
  have X0 : Stand p l e ({ frames := 0, cells := 0, slots := 0, locals := 0 } : Room) s m #[(.ref a1)] below meth c s₁ [] 0 0 := Stand.of_body Bd
  have e0 : s₁.heap = h0 := by rw [← hh, Bd.state]; rfl
  have N0 := Fr.nil n0
  have pre0 : ∀ t, Steps p.tables e below (s₁.setTop (mkF m 0 #[.val (.ref a1)] [])) t → Steps p.tables e below (s₁.setTop (entryFrame m #[(.ref a1)] 1)) t := fun t k => castTop (ef_6 m a1) k
  obtain ⟨T1, X1, e1, st1⟩ := getS2 X0 hx hZ hown (host := "") (Or.inl (hw _ (List.mem_of_getElem? (i := 37) rfl))) Via.refl e0 ST_COMPACT_STRINGS (g := (mkF m 0 #[.val (.ref a1)] [])) rfl (hb hby d6_0)
  have pre1 : ∀ t, Steps p.tables e below (T1.setTop (mkF m 3 #[.val (.ref a1)] [(.int cz)])) t → Steps p.tables e below (s₁.setTop (entryFrame m #[(.ref a1)] 1)) t := fun t kt => pre0 t (st1 _ kt)
  have pre2 : ∀ t, Steps p.tables e below (T1.setTop (mkF m 7 #[.val (.ref a1)] [(.ref a1)])) t → Steps p.tables e below (s₁.setTop (entryFrame m #[(.ref a1)] 1)) t := by
    intro t kt
    refine pre1 t ?_
    show Steps p.tables e below (T1.setTop (mkF m 3 #[.val (.ref a1)] [(.int cz)])) _
    refine XS.ifNo X1.here hx rfl (hb hby d6_3) rfl ((if0 _ _).trans (feq hCS).1) ?_
    show Steps p.tables e below (T1.setTop (mkF m 6 #[.val (.ref a1)] [])) _
    refine XS.aloadN X1.here hx rfl (hb hby d6_6) rfl rfl ?_
    exact kt
  obtain ⟨T3, X3, e3, st3⟩ := getF X1 hx hZ hown (host := "") (Or.inl (hw _ (List.mem_of_getElem? (i := 38) rfl))) Via.refl e1 F_coder_a1 (g := (mkF m 7 #[.val (.ref a1)] [(.ref a1)])) rfl rfl (hb hby d6_7)
  have pre3 : ∀ t, Steps p.tables e below (T3.setTop (mkF m 10 #[.val (.ref a1)] [(.int (0 : Int32))])) t → Steps p.tables e below (s₁.setTop (entryFrame m #[(.ref a1)] 1)) t := fun t kt => pre2 t (st3 _ kt)
  have pre4 : ∀ t, Steps p.tables e below (T3.setTop (mkF m 18 #[.val (.ref a1)] [(.int (1 : Int32))])) t → Steps p.tables e below (s₁.setTop (entryFrame m #[(.ref a1)] 1)) t := by
    intro t kt
    refine pre3 t ?_
    show Steps p.tables e below (T3.setTop (mkF m 10 #[.val (.ref a1)] [(.int (0 : Int32))])) _
    refine XS.ifNo X3.here hx rfl (hb hby d6_10) rfl ((if0 _ _).trans (teq (by decide)).2) ?_
    show Steps p.tables e below (T3.setTop (mkF m 13 #[.val (.ref a1)] [])) _
    refine XS.iconst X3.here hx rfl (hb hby d6_13) ?_
    show Steps p.tables e below (T3.setTop (mkF m 14 #[.val (.ref a1)] [(.int (1 : Int32))])) _
    refine XS.goto X3.here hx rfl (pc0 := 14) (pc' := 18) rfl (hb hby d6_14) (by decide) (by decide) ?_
    exact kt
  obtain ⟨fs, hr, hrun, hended, hW, hsame⟩ := X3.leave (v := some (.int (1 : Int32))) (fun h => by rw [Bd.returns] at h; cases h)
  refine ⟨_, _, pre4 _ ?_, hrun, hended, _, _, rfl, ?_, ⟨_, rfl⟩, hW, hsame.mono (by decide) (by decide)⟩
  · show Steps p.tables e below (T3.setTop (mkF m 18 #[.val (.ref a1)] [(.int (1 : Int32))])) _
    exact retN X3 hx (t := .boolean) Bd.returns (by simp) (hb hby d6_18) hr
  · show Qrm6 Z a1 cz h0 n0 _ T3.heap _
    rw [e3]
    exact ⟨rfl, N0, rfl⟩
def Qrm8 (Z : State) (a1 : Addr) (cz : Int32) (h0 : Heap) (n0 : Nat) (v : Option Value) (h : Heap) (L : List Loc) : Prop := v = some (.int (0 : Int32)) ∧ Fr n0 L ∧ h = h0
theorem d8_0 : decode jdk_42_method_152_code 0 = .ok (.getstatic 38, 3) := by decide +kernel
theorem d8_3 : decode jdk_42_method_152_code 3 = .ok (.ifCond .eq 10, 3) := by decide +kernel
theorem d8_6 : decode jdk_42_method_152_code 6 = .ok (.aload_n 0, 1) := by decide +kernel
theorem d8_7 : decode jdk_42_method_152_code 7 = .ok (.getfield 15, 3) := by decide +kernel
theorem d8_10 : decode jdk_42_method_152_code 10 = .ok (.goto 4, 3) := by decide +kernel
theorem d8_14 : decode jdk_42_method_152_code 14 = .ok (.ireturn, 1) := by decide +kernel
theorem ef_8 (m : MethodId) (x0 : Addr) : entryFrame m #[(.ref x0)] 1 = mkF m 0 #[.val (.ref x0)] [] := by first | (simp [entryFrame, mkF, argsToLocals, Value.category]; done) | rfl
set_option maxRecDepth 65536 in
set_option maxHeartbeats 40000000 in
theorem rm8 (l : Launch) (Z : State) (a0 : Array Value) (hw : ∀ d ∈ tables_1, d.before a0 Z = true) (ws : List Jvm.Cond) (a1 : Addr) (cz : Int32) (h0 : Heap) (n0 : Nat) (Z0 : n0 ≤ h0.size) (ST_COMPACT_STRINGS : Sta Z h0 "java/lang/String" "COMPACT_STRINGS" "Z" (.int cz)) (F_coder_a1 : Fld Z h0 a1 "java/lang/String" "coder" "B" (.int (0 : Int32))) (hCS : ¬ (cz = (0 : Int32))) :
    MetFree l (⟨"java/lang/String", "coder", "()B"⟩ : MethodName) (head1 (Jvm.Cond.code (⟨"java/lang/String", "coder", "()B"⟩ : MethodName) jdk_42_method_152_code 1 (some .byte) :: ws) ({ frames := 0, cells := 0, slots := 0, locals := 0 } : Room)) (fun a U => a = #[(.ref a1)] ∧ Z.Warmed39 U.vm ∧ U.heap = h0) (fun _ _ _ _ _ => True) (fun _ U o U' => ∃ v L, o = .returned v ∧ Qrm8 Z a1 cz h0 n0 v U'.heap L ∧ FrameEnd U o U' L ({ frames := 0, cells := 0, slots := 0, locals := 0 } : Room).cells ({ frames := 0, cells := 0, slots := 0, locals := 0 } : Room).slots) := by
  refine MetFree.of_bodySF (plainFor_of_name pn_2) hisR ?_
  intro p e s m args below meth c s₁ Bd hml0 hP hK
  obtain ⟨rfl, hZ, hh⟩ := hP
  have hx := Bd.exec
  have hby := Bd.bytes
  have hml : c.maxLocals = 1 := hml0
  have hown : s.vm.findClass "java/lang/String" = some m.cls := findClass_of_methodNamed Bd.named
  have hnm := (name_of_methodNamed Bd.named Bd.method).1
  have X0 : Stand p l e ({ frames := 0, cells := 0, slots := 0, locals := 0 } : Room) s m #[(.ref a1)] below meth c s₁ [] 0 0 := Stand.of_body Bd
  have e0 : s₁.heap = h0 := by rw [← hh, Bd.state]; rfl
  have N0 := Fr.nil n0
  have pre0 : ∀ t, Steps p.tables e below (s₁.setTop (mkF m 0 #[.val (.ref a1)] [])) t → Steps p.tables e below (s₁.setTop (entryFrame m #[(.ref a1)] 1)) t := fun t k => castTop (ef_8 m a1) k
  obtain ⟨T1, X1, e1, st1⟩ := getS2 X0 hx hZ hown (host := "") (Or.inl (hw _ (List.mem_of_getElem? (i := 37) rfl))) Via.refl e0 ST_COMPACT_STRINGS (g := (mkF m 0 #[.val (.ref a1)] [])) rfl (hb hby d8_0)
  have pre1 : ∀ t, Steps p.tables e below (T1.setTop (mkF m 3 #[.val (.ref a1)] [(.int cz)])) t → Steps p.tables e below (s₁.setTop (entryFrame m #[(.ref a1)] 1)) t := fun t kt => pre0 t (st1 _ kt)
  have pre2 : ∀ t, Steps p.tables e below (T1.setTop (mkF m 7 #[.val (.ref a1)] [(.ref a1)])) t → Steps p.tables e below (s₁.setTop (entryFrame m #[(.ref a1)] 1)) t := by
    intro t kt
    refine pre1 t ?_
    show Steps p.tables e below (T1.setTop (mkF m 3 #[.val (.ref a1)] [(.int cz)])) _
    refine XS.ifNo X1.here hx rfl (hb hby d8_3) rfl ((if0 _ _).trans (feq hCS).1) ?_
    show Steps p.tables e below (T1.setTop (mkF m 6 #[.val (.ref a1)] [])) _
    refine XS.aloadN X1.here hx rfl (hb hby d8_6) rfl rfl ?_
    exact kt
  obtain ⟨T3, X3, e3, st3⟩ := getF X1 hx hZ hown (host := "") (Or.inl (hw _ (List.mem_of_getElem? (i := 38) rfl))) Via.refl e1 F_coder_a1 (g := (mkF m 7 #[.val (.ref a1)] [(.ref a1)])) rfl rfl (hb hby d8_7)
  have pre3 : ∀ t, Steps p.tables e below (T3.setTop (mkF m 10 #[.val (.ref a1)] [(.int (0 : Int32))])) t → Steps p.tables e below (s₁.setTop (entryFrame m #[(.ref a1)] 1)) t := fun t kt => pre2 t (st3 _ kt)
  have pre4 : ∀ t, Steps p.tables e below (T3.setTop (mkF m 14 #[.val (.ref a1)] [(.int (0 : Int32))])) t → Steps p.tables e below (s₁.setTop (entryFrame m #[(.ref a1)] 1)) t := by
    intro t kt
    refine pre3 t ?_
    show Steps p.tables e below (T3.setTop (mkF m 10 #[.val (.ref a1)] [(.int (0 : Int32))])) _
    refine XS.goto X3.here hx rfl (pc0 := 10) (pc' := 14) rfl (hb hby d8_10) (by decide) (by decide) ?_
    exact kt
  obtain ⟨fs, hr, hrun, hended, hW, hsame⟩ := X3.leave (v := some (.int (0 : Int32))) (fun h => by rw [Bd.returns] at h; cases h)
  refine ⟨_, _, pre4 _ ?_, hrun, hended, _, _, rfl, ?_, ⟨_, rfl⟩, hW, hsame.mono (by decide) (by decide)⟩
  · show Steps p.tables e below (T3.setTop (mkF m 14 #[.val (.ref a1)] [(.int (0 : Int32))])) _
    exact retN X3 hx (t := .byte) Bd.returns (by simp) (hb hby d8_14) hr
  · show Qrm8 Z a1 cz h0 n0 _ T3.heap _
    rw [e3]
    exact ⟨rfl, N0, rfl⟩
def Qrm7 (Z : State) (a1 : Addr) (tb : Addr) (kd : ClassId) (vs : List Value) (ln : Int32) (cz : Int32) (h0 : Heap) (n0 : Nat) (v : Option Value) (h : Heap) (L : List Loc) : Prop := v = some (.int ln) ∧ Fr n0 L ∧ h = h0
theorem d7_0 : decode jdk_42_method_54_code 0 = .ok (.aload_n 0, 1) := by decide +kernel
theorem d7_1 : decode jdk_42_method_54_code 1 = .ok (.getfield 9, 3) := by decide +kernel
theorem d7_4 : decode jdk_42_method_54_code 4 = .ok (.arraylength, 1) := by decide +kernel
theorem d7_5 : decode jdk_42_method_54_code 5 = .ok (.aload_n 0, 1) := by decide +kernel
theorem d7_6 : decode jdk_42_method_54_code 6 = .ok (.invokevirtual 335, 3) := by decide +kernel
theorem d7_9 : decode jdk_42_method_54_code 9 = .ok (.ishr, 1) := by decide +kernel
theorem d7_10 : decode jdk_42_method_54_code 10 = .ok (.ireturn, 1) := by decide +kernel
theorem ef_7 (m : MethodId) (x0 : Addr) : entryFrame m #[(.ref x0)] 1 = mkF m 0 #[.val (.ref x0)] [] := by first | (simp [entryFrame, mkF, argsToLocals, Value.category]; done) | rfl
set_option maxRecDepth 65536 in
set_option maxHeartbeats 40000000 in
theorem rm7 (l : Launch) (Z : State) (a0 : Array Value) (hw : ∀ d ∈ tables_1, d.before a0 Z = true) (ws : List Jvm.Cond) (a1 : Addr) (tb : Addr) (kd : ClassId) (vs : List Value) (ln : Int32) (cz : Int32) (h0 : Heap) (n0 : Nat) (Z0 : n0 ≤ h0.size) (E_a1 : Exa Z h0 a1 "java/lang/String") (F_value_a1 : Fld Z h0 a1 "java/lang/String" "value" "[B" (.ref tb)) (F_coder_a1 : Fld Z h0 a1 "java/lang/String" "coder" "B" (.int (0 : Int32))) (V_tb : Arv Z h0 tb kd .byte ln vs (.int (0 : Int32))) (ST_COMPACT_STRINGS : Sta Z h0 "java/lang/String" "COMPACT_STRINGS" "Z" (.int cz)) (hCS : ¬ (cz = (0 : Int32))) :
    MetFree l (⟨"java/lang/String", "length", "()I"⟩ : MethodName) (head1 (Jvm.Cond.code (⟨"java/lang/String", "length", "()I"⟩ : MethodName) jdk_42_method_54_code 1 (some .int) :: ws) ({ frames := 1, cells := 0, slots := 0, locals := 13 } : Room)) (fun a U => a = #[(.ref a1)] ∧ Z.Warmed39 U.vm ∧ U.heap = h0) (fun _ _ _ _ _ => True) (fun _ U o U' => ∃ v L, o = .returned v ∧ Qrm7 Z a1 tb kd vs ln cz h0 n0 v U'.heap L ∧ FrameEnd U o U' L ({ frames := 1, cells := 0, slots := 0, locals := 13 } : Room).cells ({ frames := 1, cells := 0, slots := 0, locals := 13 } : Room).slots) := by
  refine MetFree.of_bodySF (plainFor_of_name pn_2) hisR ?_
  intro p e s m args below meth c s₁ Bd hml0 hP hK
  obtain ⟨rfl, hZ, hh⟩ := hP
  have hx := Bd.exec
  have hby := Bd.bytes
  have hml : c.maxLocals = 1 := hml0
  have hown : s.vm.findClass "java/lang/String" = some m.cls := findClass_of_methodNamed Bd.named
  have hnm := (name_of_methodNamed Bd.named Bd.method).1
  have X0 : Stand p l e ({ frames := 1, cells := 0, slots := 0, locals := 13 } : Room) s m #[(.ref a1)] below meth c s₁ [] 0 0 := Stand.of_body Bd
  have e0 : s₁.heap = h0 := by rw [← hh, Bd.state]; rfl
  have N0 := Fr.nil n0
  have pre0 : ∀ t, Steps p.tables e below (s₁.setTop (mkF m 0 #[.val (.ref a1)] [])) t → Steps p.tables e below (s₁.setTop (entryFrame m #[(.ref a1)] 1)) t := fun t k => castTop (ef_7 m a1) k
  have pre1 : ∀ t, Steps p.tables e below (s₁.setTop (mkF m 1 #[.val (.ref a1)] [(.ref a1)])) t → Steps p.tables e below (s₁.setTop (entryFrame m #[(.ref a1)] 1)) t := by
    intro t kt
    refine pre0 t ?_
    show Steps p.tables e below (s₁.setTop (mkF m 0 #[.val (.ref a1)] [])) _
    refine XS.aloadN X0.here hx rfl (hb hby d7_0) rfl rfl ?_
    exact kt
  obtain ⟨T2, X2, e2, st2⟩ := getF X0 hx hZ hown (host := "") (Or.inl (hw _ (List.mem_of_getElem? (i := 39) rfl))) Via.refl e0 F_value_a1 (g := (mkF m 1 #[.val (.ref a1)] [(.ref a1)])) rfl rfl (hb hby d7_1)
  have pre2 : ∀ t, Steps p.tables e below (T2.setTop (mkF m 4 #[.val (.ref a1)] [(.ref tb)])) t → Steps p.tables e below (s₁.setTop (entryFrame m #[(.ref a1)] 1)) t := fun t kt => pre1 t (st2 _ kt)
  have pre4 : ∀ t, Steps p.tables e below (T2.setTop (mkF m 6 #[.val (.ref a1)] [(.ref a1), (.int ln)])) t → Steps p.tables e below (s₁.setTop (entryFrame m #[(.ref a1)] 1)) t := by
    intro t kt
    refine pre2 t ?_
    show Steps p.tables e below (T2.setTop (mkF m 4 #[.val (.ref a1)] [(.ref tb)])) _
    obtain ⟨cl3, Ar3, -, S3, M3, -, -⟩ := (id V_tb)
    refine X2.arraylength hx (by rw [e2]; exact Ar3.1) (State.isArrayOf_alike hZ.alike Ar3.2.1) (g := (mkF m 4 #[.val (.ref a1)] [(.ref tb)])) rfl rfl (hb hby d7_4) _ ?_
    rw [len_of S3 M3]
    show Steps p.tables e below (T2.setTop (mkF m 5 #[.val (.ref a1)] [(.int ln)])) _
    refine XS.aloadN X2.here hx rfl (hb hby d7_5) rfl rfl ?_
    exact kt
  obtain ⟨cq5, kq5, q5a, q5b, q5c⟩ := isOf hZ e2 E_a1
  obtain ⟨_, _, ⟨T5, L5, k5, n5⟩, -, X5, ⟨Lc5, hQ5, l5, y5, z5⟩, st5⟩ := X2.virtualBack hx (y := (⟨"java/lang/String", "coder", "()B"⟩ : MethodName)) (z := (⟨"java/lang/String", "coder", "()B"⟩ : MethodName)) hown (mvT hZ (hw _ (List.mem_of_getElem? (i := 45) rfl))) (mvT hZ (hw _ (List.mem_of_getElem? (i := 46) rfl))) (notFace_of_selects (args := #[]) (mvT hZ (hw _ (List.mem_of_getElem? (i := 48) rfl)))) (mvT hZ (hw _ (List.mem_of_getElem? (i := 48) rfl))) (mvT hZ (hw _ (List.mem_of_getElem? (i := 47) rfl))) (by decide) (backOf (W := 1) (rm8 l Z a0 hw [] a1 cz h0 n0 Z0 ST_COMPACT_STRINGS F_coder_a1 (hCS)) hZ (hw _ (List.mem_of_getElem? (i := 49) rfl)) (hw _ (List.mem_of_getElem? (i := 15) rfl)) (by decide) (by decide)) q5a q5c (g := (mkF m 6 #[.val (.ref a1)] [(.ref a1), (.int ln)])) rfl (by rw [hml]; rfl) (Steps.refl _) (argsL := []) (rest := [(.int ln)]) (lenOf pd_0 rfl) rfl (by show 2 * 0 + _ ≤ _; exact Nat.le_of_eq rfl) (hb hby d7_6) (fun _ _ => ⟨rfl, e2, (by decide : 0 + 0 ≤ _), (by decide : 0 + 0 ≤ _)⟩)
  dsimp only [Pt.U, Pt.locs, Pt.cells, Pt.slots] at X5 l5 y5 z5 st5 hQ5
  subst l5 y5 z5
  obtain ⟨rfl, N5q, e5⟩ := hQ5
  have N5 := Fr.app N0 N5q
  have pre5 : ∀ t, Steps p.tables e below (T5.setTop (mkF m 9 #[.val (.ref a1)] [(.int (0 : Int32)), (.int ln)])) t → Steps p.tables e below (s₁.setTop (entryFrame m #[(.ref a1)] 1)) t := fun t kt => pre4 t (st5.trans kt)
  have pre6 : ∀ t, Steps p.tables e below (T5.setTop (mkF m 10 #[.val (.ref a1)] [(.int (ln >>> ((0 : Int32) &&& 31)))])) t → Steps p.tables e below (s₁.setTop (entryFrame m #[(.ref a1)] 1)) t := by
    intro t kt
    refine pre5 t ?_
    show Steps p.tables e below (T5.setTop (mkF m 9 #[.val (.ref a1)] [(.int (0 : Int32)), (.int ln)])) _
    refine XS.ishr X5.here hx rfl (hb hby d7_9) rfl ?_
    exact kt
  have hres : (ln >>> ((0 : Int32) &&& 31)) = ln := own_sh0 ln
  obtain ⟨fs, hr, hrun, hended, hW, hsame⟩ := X5.leave (v := some (.int (ln >>> ((0 : Int32) &&& 31)))) (fun h => by rw [Bd.returns] at h; cases h)
  refine ⟨_, _, pre6 _ ?_, hrun, hended, _, _, rfl, ?_, ⟨_, rfl⟩, hW, hsame.mono (by decide) (by decide)⟩
  · show Steps p.tables e below (T5.setTop (mkF m 10 #[.val (.ref a1)] [(.int (ln >>> ((0 : Int32) &&& 31)))])) _
    exact retI X5 hx Bd.returns (hb hby d7_10) hr
  · show Qrm7 Z a1 tb kd vs ln cz h0 n0 _ T5.heap _
    rw [e5]
    exact ⟨congrArg some (congrArg Value.int hres), N5, rfl⟩
theorem d13_7 : decode jdk_43_method_23_code 7 = .ok (.iload 5, 2) := by decide +kernel
theorem d13_9 : decode jdk_43_method_23_code 9 = .ok (.iload_n 3, 1) := by decide +kernel
theorem d13_10 : decode jdk_43_method_23_code 10 = .ok (.if_icmp .ge 21, 3) := by decide +kernel
theorem d13_13 : decode jdk_43_method_23_code 13 = .ok (.aload_n 0, 1) := by decide +kernel
theorem d13_14 : decode jdk_43_method_23_code 14 = .ok (.iload 5, 2) := by decide +kernel
theorem d13_16 : decode jdk_43_method_23_code 16 = .ok (.baload, 1) := by decide +kernel
theorem d13_17 : decode jdk_43_method_23_code 17 = .ok (.iload 4, 2) := by decide +kernel
theorem d13_19 : decode jdk_43_method_23_code 19 = .ok (.if_icmp .ne 6, 3) := by decide +kernel
theorem d13_25 : decode jdk_43_method_23_code 25 = .ok (.iinc 5 1, 3) := by decide +kernel
theorem d13_28 : decode jdk_43_method_23_code 28 = .ok (.goto (-21), 3) := by decide +kernel
set_option maxRecDepth 65536 in
set_option maxHeartbeats 40000000 in
theorem own_ioc {p : Program} {l : Launch} {e : Env} {R : Room} {s : State} {m : MethodId} {args : Array Value} {below : List Frame} {meth : Method} {c : Code} {T0 : State} {locs : List Loc} {cells slots : Nat} {Z : State} {h0 : Heap} (X0 : Stand p l e R s m args below meth c T0 locs cells slots) (hx : p.tables.exec = Jvm.exec) (hZ : Z.Warmed39 s.vm) (hby : c.code = jdk_43_method_23_code) (e0 : T0.heap = h0) (a1 : Addr) (p2 p3 b : Int32) (kd : ClassId) (cs : List Int32) (ln : Int32) (V0 : Arv Z h0 a1 kd .byte ln ((cs.map fun c => c.toInt8.toInt32).map Value.int) (.int (0 : Int32))) (hl : ln = Int32.ofNat cs.length ∧ cs.length ≤ 4000) :
    ∀ (k i : Nat), i + k = cs.length → (∃ i', i' < cs.length ∧ (cs.getD i' 0).toInt8.toInt32 = b ∧ ∀ t, Steps p.tables e below (T0.setTop (mkF m 22 #[.val (.ref a1), .val (.int p2), .val (.int p3), .val (.int ln), .val (.int b), .val (.int (Int32.ofNat i'))] [])) t → Steps p.tables e below (T0.setTop (mkF m 7 #[.val (.ref a1), .val (.int p2), .val (.int p3), .val (.int ln), .val (.int b), .val (.int (Int32.ofNat i))] [])) t) ∨ (∀ t, Steps p.tables e below (T0.setTop (mkF m 31 #[.val (.ref a1), .val (.int p2), .val (.int p3), .val (.int ln), .val (.int b), .val (.int (Int32.ofNat cs.length))] [])) t → Steps p.tables e below (T0.setTop (mkF m 7 #[.val (.ref a1), .val (.int p2), .val (.int p3), .val (.int ln), .val (.int b), .val (.int (Int32.ofNat i))] [])) t) := by
  intro k
  induction k with
  | zero =>
    intro i hi
    have pre0 : ∀ t, Steps p.tables e below (T0.setTop (mkF m 7 #[.val (.ref a1), .val (.int p2), .val (.int p3), .val (.int ln), .val (.int b), .val (.int (Int32.ofNat i))] [])) t → Steps p.tables e below (T0.setTop (mkF m 7 #[.val (.ref a1), .val (.int p2), .val (.int p3), .val (.int ln), .val (.int b), .val (.int (Int32.ofNat i))] [])) t := fun t k => k
    have pre1 : ∀ t, Steps p.tables e below (T0.setTop (mkF m 31 #[.val (.ref a1), .val (.int p2), .val (.int p3), .val (.int ln), .val (.int b), .val (.int (Int32.ofNat i))] [])) t → Steps p.tables e below (T0.setTop (mkF m 7 #[.val (.ref a1), .val (.int p2), .val (.int p3), .val (.int ln), .val (.int b), .val (.int (Int32.ofNat i))] [])) t := by
      intro t kt
      refine pre0 t ?_
      show Steps p.tables e below (T0.setTop (mkF m 7 #[.val (.ref a1), .val (.int p2), .val (.int p3), .val (.int ln), .val (.int b), .val (.int (Int32.ofNat i))] [])) _
      refine XS.iload X0.here hx rfl (hb hby d13_7) rfl ?_
      show Steps p.tables e below (T0.setTop (mkF m 9 #[.val (.ref a1), .val (.int p2), .val (.int p3), .val (.int ln), .val (.int b), .val (.int (Int32.ofNat i))] [(.int (Int32.ofNat i))])) _
      refine XS.iloadN X0.here hx rfl (hb hby d13_9) rfl ?_
      show Steps p.tables e below (T0.setTop (mkF m 10 #[.val (.ref a1), .val (.int p2), .val (.int p3), .val (.int ln), .val (.int b), .val (.int (Int32.ofNat i))] [(.int ln), (.int (Int32.ofNat i))])) _
      refine XS.icmpYes X0.here hx rfl (pc0 := 10) (pc' := 31) rfl (hb hby d13_10) rfl (flt (own_nlt hl hi)).2.1 (by decide) (by decide) ?_
      exact kt
    obtain rfl : i = cs.length := by omega
    exact Or.inr pre1
  | succ k ih =>
    intro i hi
    have pre0 : ∀ t, Steps p.tables e below (T0.setTop (mkF m 7 #[.val (.ref a1), .val (.int p2), .val (.int p3), .val (.int ln), .val (.int b), .val (.int (Int32.ofNat i))] [])) t → Steps p.tables e below (T0.setTop (mkF m 7 #[.val (.ref a1), .val (.int p2), .val (.int p3), .val (.int ln), .val (.int b), .val (.int (Int32.ofNat i))] [])) t := fun t k => k
    have pre2 : ∀ t, Steps p.tables e below (T0.setTop (mkF m 19 #[.val (.ref a1), .val (.int p2), .val (.int p3), .val (.int ln), .val (.int b), .val (.int (Int32.ofNat i))] [(.int b), (.int ((cs.getD i 0).toInt8.toInt32))])) t → Steps p.tables e below (T0.setTop (mkF m 7 #[.val (.ref a1), .val (.int p2), .val (.int p3), .val (.int ln), .val (.int b), .val (.int (Int32.ofNat i))] [])) t := by
      intro t kt
      refine pre0 t ?_
      show Steps p.tables e below (T0.setTop (mkF m 7 #[.val (.ref a1), .val (.int p2), .val (.int p3), .val (.int ln), .val (.int b), .val (.int (Int32.ofNat i))] [])) _
      refine XS.iload X0.here hx rfl (hb hby d13_7) rfl ?_
      show Steps p.tables e below (T0.setTop (mkF m 9 #[.val (.ref a1), .val (.int p2), .val (.int p3), .val (.int ln), .val (.int b), .val (.int (Int32.ofNat i))] [(.int (Int32.ofNat i))])) _
      refine XS.iloadN X0.here hx rfl (hb hby d13_9) rfl ?_
      show Steps p.tables e below (T0.setTop (mkF m 10 #[.val (.ref a1), .val (.int p2), .val (.int p3), .val (.int ln), .val (.int b), .val (.int (Int32.ofNat i))] [(.int ln), (.int (Int32.ofNat i))])) _
      refine XS.icmpNo X0.here hx rfl (hb hby d13_10) rfl (tlt (own_ix hl (by omega)).2).2.1 ?_
      show Steps p.tables e below (T0.setTop (mkF m 13 #[.val (.ref a1), .val (.int p2), .val (.int p3), .val (.int ln), .val (.int b), .val (.int (Int32.ofNat i))] [])) _
      refine XS.aloadN X0.here hx rfl (hb hby d13_13) rfl rfl ?_
      show Steps p.tables e below (T0.setTop (mkF m 14 #[.val (.ref a1), .val (.int p2), .val (.int p3), .val (.int ln), .val (.int b), .val (.int (Int32.ofNat i))] [(.ref a1)])) _
      refine XS.iload X0.here hx rfl (hb hby d13_14) rfl ?_
      show Steps p.tables e below (T0.setTop (mkF m 16 #[.val (.ref a1), .val (.int p2), .val (.int p3), .val (.int ln), .val (.int b), .val (.int (Int32.ofNat i))] [(.int (Int32.ofNat i)), (.ref a1)])) _
      obtain ⟨cl1, Ar1, -, S1, M1, H1, -⟩ := (id V0)
      have hin1 : ¬ ((Int32.ofNat i) < 0 ∨ cl1.slots.size ≤ ((Int32.ofNat i)).toNatClampNeg) := inb_of S1 (own_ix hl (by omega))
      refine X0.baloadBytes hx (j := (Int32.ofNat i)) (v := (.int ((cs.getD i 0).toInt8.toInt32))) (by rw [e0]; exact Ar1.1) (State.isArrayOf_alike hZ.alike Ar1.2.1) Ar1.2.2 hin1 (H1.at hin1 (own_bat hl (by omega))) (g := (mkF m 16 #[.val (.ref a1), .val (.int p2), .val (.int p3), .val (.int ln), .val (.int b), .val (.int (Int32.ofNat i))] [(.int (Int32.ofNat i)), (.ref a1)])) rfl rfl (hb hby d13_16) _ ?_
      show Steps p.tables e below (T0.setTop (mkF m 17 #[.val (.ref a1), .val (.int p2), .val (.int p3), .val (.int ln), .val (.int b), .val (.int (Int32.ofNat i))] [(.int ((cs.getD i 0).toInt8.toInt32))])) _
      refine XS.iload X0.here hx rfl (hb hby d13_17) rfl ?_
      exact kt
    by_cases hc19 : ((cs.getD i 0).toInt8.toInt32) = b
    · have pre3 : ∀ t, Steps p.tables e below (T0.setTop (mkF m 22 #[.val (.ref a1), .val (.int p2), .val (.int p3), .val (.int ln), .val (.int b), .val (.int (Int32.ofNat i))] [])) t → Steps p.tables e below (T0.setTop (mkF m 7 #[.val (.ref a1), .val (.int p2), .val (.int p3), .val (.int ln), .val (.int b), .val (.int (Int32.ofNat i))] [])) t := by
        intro t kt
        refine pre2 t ?_
        show Steps p.tables e below (T0.setTop (mkF m 19 #[.val (.ref a1), .val (.int p2), .val (.int p3), .val (.int ln), .val (.int b), .val (.int (Int32.ofNat i))] [(.int b), (.int ((cs.getD i 0).toInt8.toInt32))])) _
        refine XS.icmpNo X0.here hx rfl (hb hby d13_19) rfl (teq hc19).2 ?_
        exact kt
      exact Or.inl ⟨i, by omega, hc19, pre3⟩
    · have pre4 : ∀ t, Steps p.tables e below (T0.setTop (mkF m 25 #[.val (.ref a1), .val (.int p2), .val (.int p3), .val (.int ln), .val (.int b), .val (.int (Int32.ofNat i))] [])) t → Steps p.tables e below (T0.setTop (mkF m 7 #[.val (.ref a1), .val (.int p2), .val (.int p3), .val (.int ln), .val (.int b), .val (.int (Int32.ofNat i))] [])) t := by
        intro t kt
        refine pre2 t ?_
        show Steps p.tables e below (T0.setTop (mkF m 19 #[.val (.ref a1), .val (.int p2), .val (.int p3), .val (.int ln), .val (.int b), .val (.int (Int32.ofNat i))] [(.int b), (.int ((cs.getD i 0).toInt8.toInt32))])) _
        refine XS.icmpYes X0.here hx rfl (pc0 := 19) (pc' := 25) rfl (hb hby d13_19) rfl (feq hc19).2 (by decide) (by decide) ?_
        exact kt
      have pre5 : ∀ t, Steps p.tables e below (T0.setTop (mkF m 7 #[.val (.ref a1), .val (.int p2), .val (.int p3), .val (.int ln), .val (.int b), .val (.int ((Int32.ofNat i) + (1 : Int32)))] [])) t → Steps p.tables e below (T0.setTop (mkF m 7 #[.val (.ref a1), .val (.int p2), .val (.int p3), .val (.int ln), .val (.int b), .val (.int (Int32.ofNat i))] [])) t := by
        intro t kt
        refine pre4 t ?_
        show Steps p.tables e below (T0.setTop (mkF m 25 #[.val (.ref a1), .val (.int p2), .val (.int p3), .val (.int ln), .val (.int b), .val (.int (Int32.ofNat i))] [])) _
        refine XS.iinc X0.here hx rfl (hb hby d13_25) rfl (l' := #[.val (.ref a1), .val (.int p2), .val (.int p3), .val (.int ln), .val (.int b), .val (.int ((Int32.ofNat i) + (1 : Int32)))]) rfl ?_
        show Steps p.tables e below (T0.setTop (mkF m 28 #[.val (.ref a1), .val (.int p2), .val (.int p3), .val (.int ln), .val (.int b), .val (.int ((Int32.ofNat i) + (1 : Int32)))] [])) _
        refine XS.goto X0.here hx rfl (pc0 := 28) (pc' := 7) rfl (hb hby d13_28) (by decide) (by decide) ?_
        exact kt
      rw [← inc_ofNat i] at pre5
      rcases ih (i + 1) (by omega) with ⟨i', q1, q2, q3⟩ | q3
      · exact Or.inl ⟨i', q1, q2, fun t kt => pre5 t (q3 t kt)⟩
      · exact Or.inr fun t kt => pre5 t (q3 t kt)
def Qrm13 (Z : State) (a1 : Addr) (p2 : Int32) (p3 : Int32) (p4 : Int32) (kd : ClassId) (cs : List Int32) (ln : Int32) (h0 : Heap) (n0 : Nat) (v : Option Value) (h : Heap) (L : List Loc) : Prop := ∃ (rz : Int32), v = some (.int rz) ∧ Fr n0 L ∧ h = h0 ∧ (rz < 0 ∨ ∃ i, i < cs.length ∧ (cs.getD i 0).toInt8.toInt32 = p2.toInt8.toInt32)
theorem d13_0 : decode jdk_43_method_23_code 0 = .ok (.iload_n 1, 1) := by decide +kernel
theorem d13_1 : decode jdk_43_method_23_code 1 = .ok (.i2b, 1) := by decide +kernel
theorem d13_2 : decode jdk_43_method_23_code 2 = .ok (.istore 4, 2) := by decide +kernel
theorem d13_4 : decode jdk_43_method_23_code 4 = .ok (.iload_n 2, 1) := by decide +kernel
theorem d13_5 : decode jdk_43_method_23_code 5 = .ok (.istore 5, 2) := by decide +kernel
theorem d13_22 : decode jdk_43_method_23_code 22 = .ok (.iload 5, 2) := by decide +kernel
theorem d13_24 : decode jdk_43_method_23_code 24 = .ok (.ireturn, 1) := by decide +kernel
theorem d13_31 : decode jdk_43_method_23_code 31 = .ok (.iconst (-1), 1) := by decide +kernel
theorem d13_32 : decode jdk_43_method_23_code 32 = .ok (.ireturn, 1) := by decide +kernel
theorem ef_13 (m : MethodId) (x0 : Addr) (x1 : Int32) (x2 : Int32) (x3 : Int32) : entryFrame m #[(.ref x0), (.int x1), (.int x2), (.int x3)] 6 = mkF m 0 #[.val (.ref x0), .val (.int x1), .val (.int x2), .val (.int x3), .unset, .unset] [] := by first | (simp [entryFrame, mkF, argsToLocals, Value.category]; done) | rfl
set_option maxRecDepth 65536 in
set_option maxHeartbeats 40000000 in
theorem rm13 (l : Launch) (Z : State) (a0 : Array Value) (hw : ∀ d ∈ tables_1, d.before a0 Z = true) (ws : List Jvm.Cond) (a1 : Addr) (p2 : Int32) (p3 : Int32) (p4 : Int32) (kd : ClassId) (cs : List Int32) (ln : Int32) (h0 : Heap) (n0 : Nat) (Z0 : n0 ≤ h0.size) (V_a1 : Arv Z h0 a1 kd .byte ln ((cs.map fun c => c.toInt8.toInt32).map Value.int) (.int (0 : Int32))) (hl : ln = Int32.ofNat cs.length ∧ cs.length ≤ 4000) (hp3 : p3 = (0 : Int32)) (hp4 : ln = p4) :
    MetFree l (⟨"java/lang/StringLatin1", "indexOfChar", "([BIII)I"⟩ : MethodName) (head1 (Jvm.Cond.code (⟨"java/lang/StringLatin1", "indexOfChar", "([BIII)I"⟩ : MethodName) jdk_43_method_23_code 6 (some .int) :: ws) ({ frames := 0, cells := 0, slots := 0, locals := 0 } : Room)) (fun a U => a = #[(.ref a1), (.int p2), (.int p3), (.int p4)] ∧ Z.Warmed39 U.vm ∧ U.heap = h0) (fun _ _ _ _ _ => True) (fun _ U o U' => ∃ v L, o = .returned v ∧ Qrm13 Z a1 p2 p3 p4 kd cs ln h0 n0 v U'.heap L ∧ FrameEnd U o U' L ({ frames := 0, cells := 0, slots := 0, locals := 0 } : Room).cells ({ frames := 0, cells := 0, slots := 0, locals := 0 } : Room).slots) := by
  refine MetFree.of_bodySF (plainFor_of_name pn_1) hisR ?_
  intro p e s m args below meth c s₁ Bd hml0 hP hK
  obtain ⟨rfl, hZ, hh⟩ := hP
  have hx := Bd.exec
  have hby := Bd.bytes
  have hml : c.maxLocals = 6 := hml0
  have hown : s.vm.findClass "java/lang/StringLatin1" = some m.cls := findClass_of_methodNamed Bd.named
  have hnm := (name_of_methodNamed Bd.named Bd.method).1
  have X0 : Stand p l e ({ frames := 0, cells := 0, slots := 0, locals := 0 } : Room) s m #[(.ref a1), (.int p2), (.int p3), (.int p4)] below meth c s₁ [] 0 0 := Stand.of_body Bd
  have e0 : s₁.heap = h0 := by rw [← hh, Bd.state]; rfl
  have N0 := Fr.nil n0
  have pre0 : ∀ t, Steps p.tables e below (s₁.setTop (mkF m 0 #[.val (.ref a1), .val (.int p2), .val (.int p3), .val (.int p4), .unset, .unset] [])) t → Steps p.tables e below (s₁.setTop (entryFrame m #[(.ref a1), (.int p2), (.int p3), (.int p4)] 6)) t := fun t k => castTop (ef_13 m a1 p2 p3 p4) k
  subst hp3 hp4
  have pre1 : ∀ t, Steps p.tables e below (s₁.setTop (mkF m 7 #[.val (.ref a1), .val (.int p2), .val (.int (0 : Int32)), .val (.int ln), .val (.int (p2.toInt8.toInt32)), .val (.int (0 : Int32))] [])) t → Steps p.tables e below (s₁.setTop (entryFrame m #[(.ref a1), (.int p2), (.int (0 : Int32)), (.int ln)] 6)) t := by
    intro t kt
    refine pre0 t ?_
    show Steps p.tables e below (s₁.setTop (mkF m 0 #[.val (.ref a1), .val (.int p2), .val (.int (0 : Int32)), .val (.int ln), .unset, .unset] [])) _
    refine XS.iloadN X0.here hx rfl (hb hby d13_0) rfl ?_
    show Steps p.tables e below (s₁.setTop (mkF m 1 #[.val (.ref a1), .val (.int p2), .val (.int (0 : Int32)), .val (.int ln), .unset, .unset] [(.int p2)])) _
    refine XS.i2b X0.here hx rfl (hb hby d13_1) rfl ?_
    show Steps p.tables e below (s₁.setTop (mkF m 2 #[.val (.ref a1), .val (.int p2), .val (.int (0 : Int32)), .val (.int ln), .unset, .unset] [(.int (p2.toInt8.toInt32))])) _
    refine XS.istore X0.here hx rfl (hb hby d13_2) rfl (l' := #[.val (.ref a1), .val (.int p2), .val (.int (0 : Int32)), .val (.int ln), .val (.int (p2.toInt8.toInt32)), .unset]) rfl ?_
    show Steps p.tables e below (s₁.setTop (mkF m 4 #[.val (.ref a1), .val (.int p2), .val (.int (0 : Int32)), .val (.int ln), .val (.int (p2.toInt8.toInt32)), .unset] [])) _
    refine XS.iloadN X0.here hx rfl (hb hby d13_4) rfl ?_
    show Steps p.tables e below (s₁.setTop (mkF m 5 #[.val (.ref a1), .val (.int p2), .val (.int (0 : Int32)), .val (.int ln), .val (.int (p2.toInt8.toInt32)), .unset] [(.int (0 : Int32))])) _
    refine XS.istore X0.here hx rfl (hb hby d13_5) rfl (l' := #[.val (.ref a1), .val (.int p2), .val (.int (0 : Int32)), .val (.int ln), .val (.int (p2.toInt8.toInt32)), .val (.int (0 : Int32))]) rfl ?_
    exact kt
  rcases own_ioc X0 hx hZ hby e0 a1 p2 (0 : Int32) (p2.toInt8.toInt32) kd cs ln V_a1 hl cs.length 0 (by omega) with ⟨i', q1, q2, q3⟩ | q3
  · skip
    have pre2 : ∀ t, Steps p.tables e below (s₁.setTop (mkF m 22 #[.val (.ref a1), .val (.int p2), .val (.int (0 : Int32)), .val (.int ln), .val (.int (p2.toInt8.toInt32)), .val (.int (Int32.ofNat i'))] [])) t → Steps p.tables e below (s₁.setTop (entryFrame m #[(.ref a1), (.int p2), (.int (0 : Int32)), (.int ln)] 6)) t := fun t kt => pre1 t (q3 t kt)
    have pre3 : ∀ t, Steps p.tables e below (s₁.setTop (mkF m 24 #[.val (.ref a1), .val (.int p2), .val (.int (0 : Int32)), .val (.int ln), .val (.int (p2.toInt8.toInt32)), .val (.int (Int32.ofNat i'))] [(.int (Int32.ofNat i'))])) t → Steps p.tables e below (s₁.setTop (entryFrame m #[(.ref a1), (.int p2), (.int (0 : Int32)), (.int ln)] 6)) t := by
      intro t kt
      refine pre2 t ?_
      show Steps p.tables e below (s₁.setTop (mkF m 22 #[.val (.ref a1), .val (.int p2), .val (.int (0 : Int32)), .val (.int ln), .val (.int (p2.toInt8.toInt32)), .val (.int (Int32.ofNat i'))] [])) _
      refine XS.iload X0.here hx rfl (hb hby d13_22) rfl ?_
      exact kt
    obtain ⟨fs, hr, hrun, hended, hW, hsame⟩ := X0.leave (v := some (.int (Int32.ofNat i'))) (fun h => by rw [Bd.returns] at h; cases h)
    refine ⟨_, _, pre3 _ ?_, hrun, hended, _, _, rfl, ?_, ⟨_, rfl⟩, hW, hsame.mono (by decide) (by decide)⟩
    · show Steps p.tables e below (s₁.setTop (mkF m 24 #[.val (.ref a1), .val (.int p2), .val (.int (0 : Int32)), .val (.int ln), .val (.int (p2.toInt8.toInt32)), .val (.int (Int32.ofNat i'))] [(.int (Int32.ofNat i'))])) _
      exact retI X0 hx Bd.returns (hb hby d13_24) hr
    · show Qrm13 Z a1 p2 (0 : Int32) ln kd cs ln h0 n0 _ s₁.heap _
      rw [e0]
      exact ⟨(Int32.ofNat i'), rfl, N0, rfl, Or.inr ⟨i', q1, q2⟩⟩
  · skip
    have pre4 : ∀ t, Steps p.tables e below (s₁.setTop (mkF m 31 #[.val (.ref a1), .val (.int p2), .val (.int (0 : Int32)), .val (.int ln), .val (.int (p2.toInt8.toInt32)), .val (.int (Int32.ofNat cs.length))] [])) t → Steps p.tables e below (s₁.setTop (entryFrame m #[(.ref a1), (.int p2), (.int (0 : Int32)), (.int ln)] 6)) t := fun t kt => pre1 t (q3 t kt)
    have pre5 : ∀ t, Steps p.tables e below (s₁.setTop (mkF m 32 #[.val (.ref a1), .val (.int p2), .val (.int (0 : Int32)), .val (.int ln), .val (.int (p2.toInt8.toInt32)), .val (.int (Int32.ofNat cs.length))] [(.int (-1 : Int32))])) t → Steps p.tables e below (s₁.setTop (entryFrame m #[(.ref a1), (.int p2), (.int (0 : Int32)), (.int ln)] 6)) t := by
      intro t kt
      refine pre4 t ?_
      show Steps p.tables e below (s₁.setTop (mkF m 31 #[.val (.ref a1), .val (.int p2), .val (.int (0 : Int32)), .val (.int ln), .val (.int (p2.toInt8.toInt32)), .val (.int (Int32.ofNat cs.length))] [])) _
      refine XS.iconst X0.here hx rfl (hb hby d13_31) ?_
      exact kt
    obtain ⟨fs, hr, hrun, hended, hW, hsame⟩ := X0.leave (v := some (.int (-1 : Int32))) (fun h => by rw [Bd.returns] at h; cases h)
    refine ⟨_, _, pre5 _ ?_, hrun, hended, _, _, rfl, ?_, ⟨_, rfl⟩, hW, hsame.mono (by decide) (by decide)⟩
    · show Steps p.tables e below (s₁.setTop (mkF m 32 #[.val (.ref a1), .val (.int p2), .val (.int (0 : Int32)), .val (.int ln), .val (.int (p2.toInt8.toInt32)), .val (.int (Int32.ofNat cs.length))] [(.int (-1 : Int32))])) _
      exact retI X0 hx Bd.returns (hb hby d13_32) hr
    · show Qrm13 Z a1 p2 (0 : Int32) ln kd cs ln h0 n0 _ s₁.heap _
      rw [e0]
      exact ⟨(-1 : Int32), rfl, N0, rfl, Or.inl (by decide)⟩
def Qrm9 (Z : State) (a1 : Addr) (p2 : Int32) (p3 : Int32) (p4 : Int32) (kd : ClassId) (cs : List Int32) (ln : Int32) (h0 : Heap) (n0 : Nat) (v : Option Value) (h : Heap) (L : List Loc) : Prop := ∃ (rz : Int32), v = some (.int rz) ∧ Fr n0 L ∧ h = h0 ∧ (rz < 0 ∨ p2 ∈ cs)
theorem d9_0 : decode jdk_43_method_22_code 0 = .ok (.iload_n 1, 1) := by decide +kernel
theorem d9_1 : decode jdk_43_method_22_code 1 = .ok (.invokestatic 88, 3) := by decide +kernel
theorem d9_4 : decode jdk_43_method_22_code 4 = .ok (.ifCond .ne 5, 3) := by decide +kernel
theorem d9_7 : decode jdk_43_method_22_code 7 = .ok (.iconst (-1), 1) := by decide +kernel
theorem d9_8 : decode jdk_43_method_22_code 8 = .ok (.ireturn, 1) := by decide +kernel
theorem d9_9 : decode jdk_43_method_22_code 9 = .ok (.iload_n 2, 1) := by decide +kernel
theorem d9_10 : decode jdk_43_method_22_code 10 = .ok (.iconst 0, 1) := by decide +kernel
theorem d9_11 : decode jdk_43_method_22_code 11 = .ok (.invokestatic 92, 3) := by decide +kernel
theorem d9_14 : decode jdk_43_method_22_code 14 = .ok (.istore_n 2, 1) := by decide +kernel
theorem d9_15 : decode jdk_43_method_22_code 15 = .ok (.iload_n 3, 1) := by decide +kernel
theorem d9_16 : decode jdk_43_method_22_code 16 = .ok (.aload_n 0, 1) := by decide +kernel
theorem d9_17 : decode jdk_43_method_22_code 17 = .ok (.arraylength, 1) := by decide +kernel
theorem d9_18 : decode jdk_43_method_22_code 18 = .ok (.invokestatic 38, 3) := by decide +kernel
theorem d9_21 : decode jdk_43_method_22_code 21 = .ok (.istore_n 3, 1) := by decide +kernel
theorem d9_22 : decode jdk_43_method_22_code 22 = .ok (.iload_n 2, 1) := by decide +kernel
theorem d9_23 : decode jdk_43_method_22_code 23 = .ok (.iload_n 3, 1) := by decide +kernel
theorem d9_24 : decode jdk_43_method_22_code 24 = .ok (.if_icmp .lt 5, 3) := by decide +kernel
theorem d9_27 : decode jdk_43_method_22_code 27 = .ok (.iconst (-1), 1) := by decide +kernel
theorem d9_28 : decode jdk_43_method_22_code 28 = .ok (.ireturn, 1) := by decide +kernel
theorem d9_29 : decode jdk_43_method_22_code 29 = .ok (.aload_n 0, 1) := by decide +kernel
theorem d9_30 : decode jdk_43_method_22_code 30 = .ok (.iload_n 1, 1) := by decide +kernel
theorem d9_31 : decode jdk_43_method_22_code 31 = .ok (.iload_n 2, 1) := by decide +kernel
theorem d9_32 : decode jdk_43_method_22_code 32 = .ok (.iload_n 3, 1) := by decide +kernel
theorem d9_33 : decode jdk_43_method_22_code 33 = .ok (.invokestatic 95, 3) := by decide +kernel
theorem d9_36 : decode jdk_43_method_22_code 36 = .ok (.ireturn, 1) := by decide +kernel
theorem ef_9 (m : MethodId) (x0 : Addr) (x1 : Int32) (x2 : Int32) (x3 : Int32) : entryFrame m #[(.ref x0), (.int x1), (.int x2), (.int x3)] 4 = mkF m 0 #[.val (.ref x0), .val (.int x1), .val (.int x2), .val (.int x3)] [] := by first | (simp [entryFrame, mkF, argsToLocals, Value.category]; done) | rfl
set_option maxRecDepth 65536 in
set_option maxHeartbeats 40000000 in
theorem rm9 (l : Launch) (Z : State) (a0 : Array Value) (hw : ∀ d ∈ tables_1, d.before a0 Z = true) (ws : List Jvm.Cond) (a1 : Addr) (p2 : Int32) (p3 : Int32) (p4 : Int32) (kd : ClassId) (cs : List Int32) (ln : Int32) (h0 : Heap) (n0 : Nat) (Z0 : n0 ≤ h0.size) (V_a1 : Arv Z h0 a1 kd .byte ln ((cs.map fun c => c.toInt8.toInt32).map Value.int) (.int (0 : Int32))) (hl : ln = Int32.ofNat cs.length ∧ cs.length ≤ 4000) (hcs : ∀ c ∈ cs, ¬ c < 0 ∧ ¬ (255 : Int32) < c) (hp3 : p3 = (0 : Int32)) (hp4 : ln = p4) :
    MetFree l (⟨"java/lang/StringLatin1", "indexOf", "([BIII)I"⟩ : MethodName) (head1 (Jvm.Cond.code (⟨"java/lang/StringLatin1", "indexOf", "([BIII)I"⟩ : MethodName) jdk_43_method_22_code 4 (some .int) :: ws) ({ frames := 1, cells := 0, slots := 0, locals := 17 } : Room)) (fun a U => a = #[(.ref a1), (.int p2), (.int p3), (.int p4)] ∧ Z.Warmed39 U.vm ∧ U.heap = h0) (fun _ _ _ _ _ => True) (fun _ U o U' => ∃ v L, o = .returned v ∧ Qrm9 Z a1 p2 p3 p4 kd cs ln h0 n0 v U'.heap L ∧ FrameEnd U o U' L ({ frames := 1, cells := 0, slots := 0, locals := 17 } : Room).cells ({ frames := 1, cells := 0, slots := 0, locals := 17 } : Room).slots) := by
  refine MetFree.of_bodySF (plainFor_of_name pn_1) hisR ?_
  intro p e s m args below meth c s₁ Bd hml0 hP hK
  obtain ⟨rfl, hZ, hh⟩ := hP
  have hx := Bd.exec
  have hby := Bd.bytes
  have hml : c.maxLocals = 4 := hml0
  have hown : s.vm.findClass "java/lang/StringLatin1" = some m.cls := findClass_of_methodNamed Bd.named
  have hnm := (name_of_methodNamed Bd.named Bd.method).1
  have X0 : Stand p l e ({ frames := 1, cells := 0, slots := 0, locals := 17 } : Room) s m #[(.ref a1), (.int p2), (.int p3), (.int p4)] below meth c s₁ [] 0 0 := Stand.of_body Bd
  have e0 : s₁.heap = h0 := by rw [← hh, Bd.state]; rfl
  have N0 := Fr.nil n0
  have pre0 : ∀ t, Steps p.tables e below (s₁.setTop (mkF m 0 #[.val (.ref a1), .val (.int p2), .val (.int p3), .val (.int p4)] [])) t → Steps p.tables e below (s₁.setTop (entryFrame m #[(.ref a1), (.int p2), (.int p3), (.int p4)] 4)) t := fun t k => castTop (ef_9 m a1 p2 p3 p4) k
  subst hp3 hp4
  have pre1 : ∀ t, Steps p.tables e below (s₁.setTop (mkF m 1 #[.val (.ref a1), .val (.int p2), .val (.int (0 : Int32)), .val (.int ln)] [(.int p2)])) t → Steps p.tables e below (s₁.setTop (entryFrame m #[(.ref a1), (.int p2), (.int (0 : Int32)), (.int ln)] 4)) t := by
    intro t kt
    refine pre0 t ?_
    show Steps p.tables e below (s₁.setTop (mkF m 0 #[.val (.ref a1), .val (.int p2), .val (.int (0 : Int32)), .val (.int ln)] [])) _
    refine XS.iloadN X0.here hx rfl (hb hby d9_0) rfl ?_
    exact kt
  obtain ⟨_, _, ⟨T2, L2, k2, n2⟩, -, X2, ⟨Lc2, hQ2, l2, y2, z2⟩, st2⟩ := Jvm.LawKit.callS X0 hx (y := (⟨"java/lang/StringLatin1", "canEncode", "(I)Z"⟩ : MethodName)) hown (mvT hZ (hw _ (List.mem_of_getElem? (i := 54) rfl))) (mvT hZ (hw _ (List.mem_of_getElem? (i := 55) rfl))) (mvT hZ (hw _ (List.mem_of_getElem? (i := 52) rfl))) (mvT hZ (hw _ (List.mem_of_getElem? (i := 56) rfl))) (by decide) (backOf (W := 0) (rm10 l Z a0 hw [] p2 h0 n0) hZ (hw _ (List.mem_of_getElem? (i := 56) rfl)) (hw _ (List.mem_of_getElem? (i := 52) rfl)) (by decide) (by decide)) (g := (mkF m 1 #[.val (.ref a1), .val (.int p2), .val (.int (0 : Int32)), .val (.int ln)] [(.int p2)])) rfl (by rw [hml]; rfl) (argsL := [(.int p2)]) (rest := []) (lenOf pd_1 rfl) rfl (by show 2 * 0 + _ ≤ _; exact Nat.le_of_eq rfl) (hb hby d9_1) (fun _ _ => ⟨rfl, e0, (by decide : 0 + 0 ≤ _), (by decide : 0 + 0 ≤ _)⟩)
  dsimp only [Pt.U, Pt.locs, Pt.cells, Pt.slots] at X2 l2 y2 z2 st2 hQ2
  subst l2 y2 z2
  obtain ⟨rfl, N2q, e2⟩ := hQ2
  have N2 := Fr.app N0 N2q
  have pre2 : ∀ t, Steps p.tables e below (T2.setTop (mkF m 4 #[.val (.ref a1), .val (.int p2), .val (.int (0 : Int32)), .val (.int ln)] [(.int (own_f10 p2))])) t → Steps p.tables e below (s₁.setTop (entryFrame m #[(.ref a1), (.int p2), (.int (0 : Int32)), (.int ln)] 4)) t := fun t kt => pre1 t (st2 _ kt)
  by_cases hc4 : (own_f10 p2) = (0 : Int32)
  · have pre3 : ∀ t, Steps p.tables e below (T2.setTop (mkF m 7 #[.val (.ref a1), .val (.int p2), .val (.int (0 : Int32)), .val (.int ln)] [])) t → Steps p.tables e below (s₁.setTop (entryFrame m #[(.ref a1), (.int p2), (.int (0 : Int32)), (.int ln)] 4)) t := by
      intro t kt
      refine pre2 t ?_
      show Steps p.tables e below (T2.setTop (mkF m 4 #[.val (.ref a1), .val (.int p2), .val (.int (0 : Int32)), .val (.int ln)] [(.int (own_f10 p2))])) _
      refine XS.ifNo X2.here hx rfl (hb hby d9_4) rfl ((if0 _ _).trans (teq hc4).2) ?_
      exact kt
    have pre4 : ∀ t, Steps p.tables e below (T2.setTop (mkF m 8 #[.val (.ref a1), .val (.int p2), .val (.int (0 : Int32)), .val (.int ln)] [(.int (-1 : Int32))])) t → Steps p.tables e below (s₁.setTop (entryFrame m #[(.ref a1), (.int p2), (.int (0 : Int32)), (.int ln)] 4)) t := by
      intro t kt
      refine pre3 t ?_
      show Steps p.tables e below (T2.setTop (mkF m 7 #[.val (.ref a1), .val (.int p2), .val (.int (0 : Int32)), .val (.int ln)] [])) _
      refine XS.iconst X2.here hx rfl (hb hby d9_7) ?_
      exact kt
    obtain ⟨fs, hr, hrun, hended, hW, hsame⟩ := X2.leave (v := some (.int (-1 : Int32))) (fun h => by rw [Bd.returns] at h; cases h)
    refine ⟨_, _, pre4 _ ?_, hrun, hended, _, _, rfl, ?_, ⟨_, rfl⟩, hW, hsame.mono (by decide) (by decide)⟩
    · show Steps p.tables e below (T2.setTop (mkF m 8 #[.val (.ref a1), .val (.int p2), .val (.int (0 : Int32)), .val (.int ln)] [(.int (-1 : Int32))])) _
      exact retI X2 hx Bd.returns (hb hby d9_8) hr
    · show Qrm9 Z a1 p2 (0 : Int32) ln kd cs ln h0 n0 _ T2.heap _
      rw [e2]
      exact ⟨(-1 : Int32), rfl, N2, rfl, Or.inl (by decide)⟩
  · have pre5 : ∀ t, Steps p.tables e below (T2.setTop (mkF m 9 #[.val (.ref a1), .val (.int p2), .val (.int (0 : Int32)), .val (.int ln)] [])) t → Steps p.tables e below (s₁.setTop (entryFrame m #[(.ref a1), (.int p2), (.int (0 : Int32)), (.int ln)] 4)) t := by
      intro t kt
      refine pre2 t ?_
      show Steps p.tables e below (T2.setTop (mkF m 4 #[.val (.ref a1), .val (.int p2), .val (.int (0 : Int32)), .val (.int ln)] [(.int (own_f10 p2))])) _
      refine XS.ifYes X2.here hx rfl (pc0 := 4) (pc' := 9) rfl (hb hby d9_4) rfl ((if0 _ _).trans (feq hc4).2) (by decide) (by decide) ?_
      exact kt
    have pre6 : ∀ t, Steps p.tables e below (T2.setTop (mkF m 11 #[.val (.ref a1), .val (.int p2), .val (.int (0 : Int32)), .val (.int ln)] [(.int (0 : Int32)), (.int (0 : Int32))])) t → Steps p.tables e below (s₁.setTop (entryFrame m #[(.ref a1), (.int p2), (.int (0 : Int32)), (.int ln)] 4)) t := by
      intro t kt
      refine pre5 t ?_
      show Steps p.tables e below (T2.setTop (mkF m 9 #[.val (.ref a1), .val (.int p2), .val (.int (0 : Int32)), .val (.int ln)] [])) _
      refine XS.iloadN X2.here hx rfl (hb hby d9_9) rfl ?_
      show Steps p.tables e below (T2.setTop (mkF m 10 #[.val (.ref a1), .val (.int p2), .val (.int (0 : Int32)), .val (.int ln)] [(.int (0 : Int32))])) _
      refine XS.iconst X2.here hx rfl (hb hby d9_10) ?_
      exact kt
    obtain ⟨_, _, ⟨T7, L7, k7, n7⟩, -, X7, ⟨Lc7, hQ7, l7, y7, z7⟩, st7⟩ := Jvm.LawKit.callS X2 hx (y := (⟨"java/lang/Math", "max", "(II)I"⟩ : MethodName)) hown (mvT hZ (hw _ (List.mem_of_getElem? (i := 57) rfl))) (mvT hZ (hw _ (List.mem_of_getElem? (i := 58) rfl))) (mvT hZ (hw _ (List.mem_of_getElem? (i := 8) rfl))) (mvT hZ (hw _ (List.mem_of_getElem? (i := 59) rfl))) (by decide) (backOf (W := 0) (rm11 l Z a0 hw [] (0 : Int32) (0 : Int32) h0 n0) hZ (hw _ (List.mem_of_getElem? (i := 59) rfl)) (hw _ (List.mem_of_getElem? (i := 8) rfl)) (by decide) (by decide)) (g := (mkF m 11 #[.val (.ref a1), .val (.int p2), .val (.int (0 : Int32)), .val (.int ln)] [(.int (0 : Int32)), (.int (0 : Int32))])) rfl (by rw [hml]; rfl) (argsL := [(.int (0 : Int32)), (.int (0 : Int32))]) (rest := []) (lenOf pd_2 rfl) rfl (by show 2 * 0 + _ ≤ _; exact Nat.le_of_eq rfl) (hb hby d9_11) (fun _ _ => ⟨rfl, e2, (by decide : 0 + 0 ≤ _), (by decide : 0 + 0 ≤ _)⟩)
    dsimp only [Pt.U, Pt.locs, Pt.cells, Pt.slots] at X7 l7 y7 z7 st7 hQ7
    subst l7 y7 z7
    obtain ⟨rfl, N7q, e7⟩ := hQ7
    have N7 := Fr.app N2 N7q
    have pre7 : ∀ t, Steps p.tables e below (T7.setTop (mkF m 14 #[.val (.ref a1), .val (.int p2), .val (.int (0 : Int32)), .val (.int ln)] [(.int (own_f11 (0 : Int32) (0 : Int32)))])) t → Steps p.tables e below (s₁.setTop (entryFrame m #[(.ref a1), (.int p2), (.int (0 : Int32)), (.int ln)] 4)) t := fun t kt => pre6 t (st7 _ kt)
    have pre9 : ∀ t, Steps p.tables e below (T7.setTop (mkF m 18 #[.val (.ref a1), .val (.int p2), .val (.int (own_f11 (0 : Int32) (0 : Int32))), .val (.int ln)] [(.int ln), (.int ln)])) t → Steps p.tables e below (s₁.setTop (entryFrame m #[(.ref a1), (.int p2), (.int (0 : Int32)), (.int ln)] 4)) t := by
      intro t kt
      refine pre7 t ?_
      show Steps p.tables e below (T7.setTop (mkF m 14 #[.val (.ref a1), .val (.int p2), .val (.int (0 : Int32)), .val (.int ln)] [(.int (own_f11 (0 : Int32) (0 : Int32)))])) _
      refine XS.istoreN X7.here hx rfl (hb hby d9_14) rfl (l' := #[.val (.ref a1), .val (.int p2), .val (.int (own_f11 (0 : Int32) (0 : Int32))), .val (.int ln)]) rfl ?_
      show Steps p.tables e below (T7.setTop (mkF m 15 #[.val (.ref a1), .val (.int p2), .val (.int (own_f11 (0 : Int32) (0 : Int32))), .val (.int ln)] [])) _
      refine XS.iloadN X7.here hx rfl (hb hby d9_15) rfl ?_
      show Steps p.tables e below (T7.setTop (mkF m 16 #[.val (.ref a1), .val (.int p2), .val (.int (own_f11 (0 : Int32) (0 : Int32))), .val (.int ln)] [(.int ln)])) _
      refine XS.aloadN X7.here hx rfl (hb hby d9_16) rfl rfl ?_
      show Steps p.tables e below (T7.setTop (mkF m 17 #[.val (.ref a1), .val (.int p2), .val (.int (own_f11 (0 : Int32) (0 : Int32))), .val (.int ln)] [(.ref a1), (.int ln)])) _
      obtain ⟨cl8, Ar8, -, S8, M8, -, -⟩ := (id V_a1)
      refine X7.arraylength hx (by rw [e7]; exact Ar8.1) (State.isArrayOf_alike hZ.alike Ar8.2.1) (g := (mkF m 17 #[.val (.ref a1), .val (.int p2), .val (.int (own_f11 (0 : Int32) (0 : Int32))), .val (.int ln)] [(.ref a1), (.int ln)])) rfl rfl (hb hby d9_17) _ ?_
      rw [len_of S8 M8]
      exact kt
    obtain ⟨_, _, ⟨T10, L10, k10, n10⟩, -, X10, ⟨Lc10, hQ10, l10, y10, z10⟩, st10⟩ := Jvm.LawKit.callS X7 hx (y := (⟨"java/lang/Math", "min", "(II)I"⟩ : MethodName)) hown (mvT hZ (hw _ (List.mem_of_getElem? (i := 60) rfl))) (mvT hZ (hw _ (List.mem_of_getElem? (i := 61) rfl))) (mvT hZ (hw _ (List.mem_of_getElem? (i := 8) rfl))) (mvT hZ (hw _ (List.mem_of_getElem? (i := 62) rfl))) (by decide) (backOf (W := 0) (rm12 l Z a0 hw [] ln ln h0 n0) hZ (hw _ (List.mem_of_getElem? (i := 62) rfl)) (hw _ (List.mem_of_getElem? (i := 8) rfl)) (by decide) (by decide)) (g := (mkF m 18 #[.val (.ref a1), .val (.int p2), .val (.int (own_f11 (0 : Int32) (0 : Int32))), .val (.int ln)] [(.int ln), (.int ln)])) rfl (by rw [hml]; rfl) (argsL := [(.int ln), (.int ln)]) (rest := []) (lenOf pd_2 rfl) rfl (by show 2 * 0 + _ ≤ _; exact Nat.le_of_eq rfl) (hb hby d9_18) (fun _ _ => ⟨rfl, e7, (by decide : 0 + 0 ≤ _), (by decide : 0 + 0 ≤ _)⟩)
    dsimp only [Pt.U, Pt.locs, Pt.cells, Pt.slots] at X10 l10 y10 z10 st10 hQ10
    subst l10 y10 z10
    obtain ⟨rfl, N10q, e10⟩ := hQ10
    have N10 := Fr.app N7 N10q
    have pre10 : ∀ t, Steps p.tables e below (T10.setTop (mkF m 21 #[.val (.ref a1), .val (.int p2), .val (.int (own_f11 (0 : Int32) (0 : Int32))), .val (.int ln)] [(.int (own_f12 ln ln))])) t → Steps p.tables e below (s₁.setTop (entryFrame m #[(.ref a1), (.int p2), (.int (0 : Int32)), (.int ln)] 4)) t := fun t kt => pre9 t (st10 _ kt)
    have pre11 : ∀ t, Steps p.tables e below (T10.setTop (mkF m 24 #[.val (.ref a1), .val (.int p2), .val (.int (own_f11 (0 : Int32) (0 : Int32))), .val (.int (own_f12 ln ln))] [(.int (own_f12 ln ln)), (.int (own_f11 (0 : Int32) (0 : Int32)))])) t → Steps p.tables e below (s₁.setTop (entryFrame m #[(.ref a1), (.int p2), (.int (0 : Int32)), (.int ln)] 4)) t := by
      intro t kt
      refine pre10 t ?_
      show Steps p.tables e below (T10.setTop (mkF m 21 #[.val (.ref a1), .val (.int p2), .val (.int (own_f11 (0 : Int32) (0 : Int32))), .val (.int ln)] [(.int (own_f12 ln ln))])) _
      refine XS.istoreN X10.here hx rfl (hb hby d9_21) rfl (l' := #[.val (.ref a1), .val (.int p2), .val (.int (own_f11 (0 : Int32) (0 : Int32))), .val (.int (own_f12 ln ln))]) rfl ?_
      show Steps p.tables e below (T10.setTop (mkF m 22 #[.val (.ref a1), .val (.int p2), .val (.int (own_f11 (0 : Int32) (0 : Int32))), .val (.int (own_f12 ln ln))] [])) _
      refine XS.iloadN X10.here hx rfl (hb hby d9_22) rfl ?_
      show Steps p.tables e below (T10.setTop (mkF m 23 #[.val (.ref a1), .val (.int p2), .val (.int (own_f11 (0 : Int32) (0 : Int32))), .val (.int (own_f12 ln ln))] [(.int (own_f11 (0 : Int32) (0 : Int32)))])) _
      refine XS.iloadN X10.here hx rfl (hb hby d9_23) rfl ?_
      exact kt
    by_cases hc24 : (own_f11 (0 : Int32) (0 : Int32)) < (own_f12 ln ln)
    · have pre12 : ∀ t, Steps p.tables e below (T10.setTop (mkF m 29 #[.val (.ref a1), .val (.int p2), .val (.int (own_f11 (0 : Int32) (0 : Int32))), .val (.int (own_f12 ln ln))] [])) t → Steps p.tables e below (s₁.setTop (entryFrame m #[(.ref a1), (.int p2), (.int (0 : Int32)), (.int ln)] 4)) t := by
        intro t kt
        refine pre11 t ?_
        show Steps p.tables e below (T10.setTop (mkF m 24 #[.val (.ref a1), .val (.int p2), .val (.int (own_f11 (0 : Int32) (0 : Int32))), .val (.int (own_f12 ln ln))] [(.int (own_f12 ln ln)), (.int (own_f11 (0 : Int32) (0 : Int32)))])) _
        refine XS.icmpYes X10.here hx rfl (pc0 := 24) (pc' := 29) rfl (hb hby d9_24) rfl (tlt hc24).1 (by decide) (by decide) ?_
        exact kt
      have pre13 : ∀ t, Steps p.tables e below (T10.setTop (mkF m 33 #[.val (.ref a1), .val (.int p2), .val (.int (own_f11 (0 : Int32) (0 : Int32))), .val (.int (own_f12 ln ln))] [(.int (own_f12 ln ln)), (.int (own_f11 (0 : Int32) (0 : Int32))), (.int p2), (.ref a1)])) t → Steps p.tables e below (s₁.setTop (entryFrame m #[(.ref a1), (.int p2), (.int (0 : Int32)), (.int ln)] 4)) t := by
        intro t kt
        refine pre12 t ?_
        show Steps p.tables e below (T10.setTop (mkF m 29 #[.val (.ref a1), .val (.int p2), .val (.int (own_f11 (0 : Int32) (0 : Int32))), .val (.int (own_f12 ln ln))] [])) _
        refine XS.aloadN X10.here hx rfl (hb hby d9_29) rfl rfl ?_
        show Steps p.tables e below (T10.setTop (mkF m 30 #[.val (.ref a1), .val (.int p2), .val (.int (own_f11 (0 : Int32) (0 : Int32))), .val (.int (own_f12 ln ln))] [(.ref a1)])) _
        refine XS.iloadN X10.here hx rfl (hb hby d9_30) rfl ?_
        show Steps p.tables e below (T10.setTop (mkF m 31 #[.val (.ref a1), .val (.int p2), .val (.int (own_f11 (0 : Int32) (0 : Int32))), .val (.int (own_f12 ln ln))] [(.int p2), (.ref a1)])) _
        refine XS.iloadN X10.here hx rfl (hb hby d9_31) rfl ?_
        show Steps p.tables e below (T10.setTop (mkF m 32 #[.val (.ref a1), .val (.int p2), .val (.int (own_f11 (0 : Int32) (0 : Int32))), .val (.int (own_f12 ln ln))] [(.int (own_f11 (0 : Int32) (0 : Int32))), (.int p2), (.ref a1)])) _
        refine XS.iloadN X10.here hx rfl (hb hby d9_32) rfl ?_
        exact kt
      obtain ⟨_, _, ⟨T14, L14, k14, n14⟩, -, X14, ⟨Lc14, hQ14, l14, y14, z14⟩, st14⟩ := Jvm.LawKit.callS X10 hx (y := (⟨"java/lang/StringLatin1", "indexOfChar", "([BIII)I"⟩ : MethodName)) hown (mvT hZ (hw _ (List.mem_of_getElem? (i := 63) rfl))) (mvT hZ (hw _ (List.mem_of_getElem? (i := 64) rfl))) (mvT hZ (hw _ (List.mem_of_getElem? (i := 52) rfl))) (mvT hZ (hw _ (List.mem_of_getElem? (i := 65) rfl))) (by decide) (backOf (W := 0) (rm13 l Z a0 hw [] a1 p2 (own_f11 (0 : Int32) (0 : Int32)) (own_f12 ln ln) kd cs ln h0 n0 Z0 V_a1 (hl) (own_max0) ((own_minL ln).symm)) hZ (hw _ (List.mem_of_getElem? (i := 65) rfl)) (hw _ (List.mem_of_getElem? (i := 52) rfl)) (by decide) (by decide)) (g := (mkF m 33 #[.val (.ref a1), .val (.int p2), .val (.int (own_f11 (0 : Int32) (0 : Int32))), .val (.int (own_f12 ln ln))] [(.int (own_f12 ln ln)), (.int (own_f11 (0 : Int32) (0 : Int32))), (.int p2), (.ref a1)])) rfl (by rw [hml]; rfl) (argsL := [(.ref a1), (.int p2), (.int (own_f11 (0 : Int32) (0 : Int32))), (.int (own_f12 ln ln))]) (rest := []) (lenOf pd_3 rfl) rfl (by show 2 * 0 + _ ≤ _; exact Nat.le_of_eq rfl) (hb hby d9_33) (fun _ _ => ⟨rfl, e10, (by decide : 0 + 0 ≤ _), (by decide : 0 + 0 ≤ _)⟩)
      dsimp only [Pt.U, Pt.locs, Pt.cells, Pt.slots] at X14 l14 y14 z14 st14 hQ14
      subst l14 y14 z14
      obtain ⟨rz_14, rfl, N14q, e14, R14_0⟩ := hQ14
      have N14 := Fr.app N10 N14q
      have pre14 : ∀ t, Steps p.tables e below (T14.setTop (mkF m 36 #[.val (.ref a1), .val (.int p2), .val (.int (own_f11 (0 : Int32) (0 : Int32))), .val (.int (own_f12 ln ln))] [(.int rz_14)])) t → Steps p.tables e below (s₁.setTop (entryFrame m #[(.ref a1), (.int p2), (.int (0 : Int32)), (.int ln)] 4)) t := fun t kt => pre13 t (st14 _ kt)
      obtain ⟨fs, hr, hrun, hended, hW, hsame⟩ := X14.leave (v := some (.int rz_14)) (fun h => by rw [Bd.returns] at h; cases h)
      refine ⟨_, _, pre14 _ ?_, hrun, hended, _, _, rfl, ?_, ⟨_, rfl⟩, hW, hsame.mono (by decide) (by decide)⟩
      · show Steps p.tables e below (T14.setTop (mkF m 36 #[.val (.ref a1), .val (.int p2), .val (.int (own_f11 (0 : Int32) (0 : Int32))), .val (.int (own_f12 ln ln))] [(.int rz_14)])) _
        exact retI X14 hx Bd.returns (hb hby d9_36) hr
      · show Qrm9 Z a1 p2 (0 : Int32) ln kd cs ln h0 n0 _ T14.heap _
        rw [e14]
        exact ⟨rz_14, rfl, N14, rfl, (own_ior hcs hc4 R14_0)⟩
    · have pre15 : ∀ t, Steps p.tables e below (T10.setTop (mkF m 27 #[.val (.ref a1), .val (.int p2), .val (.int (own_f11 (0 : Int32) (0 : Int32))), .val (.int (own_f12 ln ln))] [])) t → Steps p.tables e below (s₁.setTop (entryFrame m #[(.ref a1), (.int p2), (.int (0 : Int32)), (.int ln)] 4)) t := by
        intro t kt
        refine pre11 t ?_
        show Steps p.tables e below (T10.setTop (mkF m 24 #[.val (.ref a1), .val (.int p2), .val (.int (own_f11 (0 : Int32) (0 : Int32))), .val (.int (own_f12 ln ln))] [(.int (own_f12 ln ln)), (.int (own_f11 (0 : Int32) (0 : Int32)))])) _
        refine XS.icmpNo X10.here hx rfl (hb hby d9_24) rfl (flt hc24).1 ?_
        exact kt
      have pre16 : ∀ t, Steps p.tables e below (T10.setTop (mkF m 28 #[.val (.ref a1), .val (.int p2), .val (.int (own_f11 (0 : Int32) (0 : Int32))), .val (.int (own_f12 ln ln))] [(.int (-1 : Int32))])) t → Steps p.tables e below (s₁.setTop (entryFrame m #[(.ref a1), (.int p2), (.int (0 : Int32)), (.int ln)] 4)) t := by
        intro t kt
        refine pre15 t ?_
        show Steps p.tables e below (T10.setTop (mkF m 27 #[.val (.ref a1), .val (.int p2), .val (.int (own_f11 (0 : Int32) (0 : Int32))), .val (.int (own_f12 ln ln))] [])) _
        refine XS.iconst X10.here hx rfl (hb hby d9_27) ?_
        exact kt
      obtain ⟨fs, hr, hrun, hended, hW, hsame⟩ := X10.leave (v := some (.int (-1 : Int32))) (fun h => by rw [Bd.returns] at h; cases h)
      refine ⟨_, _, pre16 _ ?_, hrun, hended, _, _, rfl, ?_, ⟨_, rfl⟩, hW, hsame.mono (by decide) (by decide)⟩
      · show Steps p.tables e below (T10.setTop (mkF m 28 #[.val (.ref a1), .val (.int p2), .val (.int (own_f11 (0 : Int32) (0 : Int32))), .val (.int (own_f12 ln ln))] [(.int (-1 : Int32))])) _
        exact retI X10 hx Bd.returns (hb hby d9_28) hr
      · show Qrm9 Z a1 p2 (0 : Int32) ln kd cs ln h0 n0 _ T10.heap _
        rw [e10]
        exact ⟨(-1 : Int32), rfl, N10, rfl, Or.inl (by decide)⟩
def Qrm5 (Z : State) (a1 : Addr) (p2 : Int32) (p3 : Int32) (tb : Addr) (kd : ClassId) (cs : List Int32) (ln : Int32) (cz : Int32) (h0 : Heap) (n0 : Nat) (v : Option Value) (h : Heap) (L : List Loc) : Prop := ∃ (rz : Int32), v = some (.int rz) ∧ Fr n0 L ∧ h = h0 ∧ (rz < 0 ∨ p2 ∈ cs)
theorem d5_0 : decode jdk_42_method_80_code 0 = .ok (.aload_n 0, 1) := by decide +kernel
theorem d5_1 : decode jdk_42_method_80_code 1 = .ok (.invokevirtual 492, 3) := by decide +kernel
theorem d5_4 : decode jdk_42_method_80_code 4 = .ok (.ifCond .eq 19, 3) := by decide +kernel
theorem d5_7 : decode jdk_42_method_80_code 7 = .ok (.aload_n 0, 1) := by decide +kernel
theorem d5_8 : decode jdk_42_method_80_code 8 = .ok (.getfield 9, 3) := by decide +kernel
theorem d5_11 : decode jdk_42_method_80_code 11 = .ok (.iload_n 1, 1) := by decide +kernel
theorem d5_12 : decode jdk_42_method_80_code 12 = .ok (.iload_n 2, 1) := by decide +kernel
theorem d5_13 : decode jdk_42_method_80_code 13 = .ok (.aload_n 0, 1) := by decide +kernel
theorem d5_14 : decode jdk_42_method_80_code 14 = .ok (.invokevirtual 505, 3) := by decide +kernel
theorem d5_17 : decode jdk_42_method_80_code 17 = .ok (.invokestatic 637, 3) := by decide +kernel
theorem d5_20 : decode jdk_42_method_80_code 20 = .ok (.goto 16, 3) := by decide +kernel
theorem d5_36 : decode jdk_42_method_80_code 36 = .ok (.ireturn, 1) := by decide +kernel
theorem ef_5 (m : MethodId) (x0 : Addr) (x1 : Int32) (x2 : Int32) : entryFrame m #[(.ref x0), (.int x1), (.int x2)] 3 = mkF m 0 #[.val (.ref x0), .val (.int x1), .val (.int x2)] [] := by first | (simp [entryFrame, mkF, argsToLocals, Value.category]; done) | rfl
set_option maxRecDepth 65536 in
set_option maxHeartbeats 40000000 in
theorem rm5 (l : Launch) (Z : State) (a0 : Array Value) (hw : ∀ d ∈ tables_1, d.before a0 Z = true) (ws : List Jvm.Cond) (a1 : Addr) (p2 : Int32) (p3 : Int32) (tb : Addr) (kd : ClassId) (cs : List Int32) (ln : Int32) (cz : Int32) (h0 : Heap) (n0 : Nat) (Z0 : n0 ≤ h0.size) (E_a1 : Exa Z h0 a1 "java/lang/String") (F_value_a1 : Fld Z h0 a1 "java/lang/String" "value" "[B" (.ref tb)) (F_coder_a1 : Fld Z h0 a1 "java/lang/String" "coder" "B" (.int (0 : Int32))) (V_tb : Arv Z h0 tb kd .byte ln ((cs.map fun c => c.toInt8.toInt32).map Value.int) (.int (0 : Int32))) (ST_COMPACT_STRINGS : Sta Z h0 "java/lang/String" "COMPACT_STRINGS" "Z" (.int cz)) (hCS : ¬ (cz = (0 : Int32))) (hl : ln = Int32.ofNat cs.length ∧ cs.length ≤ 4000) (hcs : ∀ c ∈ cs, ¬ c < 0 ∧ ¬ (255 : Int32) < c) (hp3 : p3 = (0 : Int32)) :
    MetFree l (⟨"java/lang/String", "indexOf", "(II)I"⟩ : MethodName) (head1 (Jvm.Cond.code (⟨"java/lang/String", "indexOf", "(II)I"⟩ : MethodName) jdk_42_method_80_code 3 (some .int) :: ws) ({ frames := 2, cells := 0, slots := 0, locals := 32 } : Room)) (fun a U => a = #[(.ref a1), (.int p2), (.int p3)] ∧ Z.Warmed39 U.vm ∧ U.heap = h0) (fun _ _ _ _ _ => True) (fun _ U o U' => ∃ v L, o = .returned v ∧ Qrm5 Z a1 p2 p3 tb kd cs ln cz h0 n0 v U'.heap L ∧ FrameEnd U o U' L ({ frames := 2, cells := 0, slots := 0, locals := 32 } : Room).cells ({ frames := 2, cells := 0, slots := 0, locals := 32 } : Room).slots) := by
  refine MetFree.of_bodySF (plainFor_of_name pn_2) hisR ?_
  intro p e s m args below meth c s₁ Bd hml0 hP hK
  obtain ⟨rfl, hZ, hh⟩ := hP
  have hx := Bd.exec
  have hby := Bd.bytes
  have hml : c.maxLocals = 3 := hml0
  have hown : s.vm.findClass "java/lang/String" = some m.cls := findClass_of_methodNamed Bd.named
  have hnm := (name_of_methodNamed Bd.named Bd.method).1
  have X0 : Stand p l e ({ frames := 2, cells := 0, slots := 0, locals := 32 } : Room) s m #[(.ref a1), (.int p2), (.int p3)] below meth c s₁ [] 0 0 := Stand.of_body Bd
  have e0 : s₁.heap = h0 := by rw [← hh, Bd.state]; rfl
  have N0 := Fr.nil n0
  have pre0 : ∀ t, Steps p.tables e below (s₁.setTop (mkF m 0 #[.val (.ref a1), .val (.int p2), .val (.int p3)] [])) t → Steps p.tables e below (s₁.setTop (entryFrame m #[(.ref a1), (.int p2), (.int p3)] 3)) t := fun t k => castTop (ef_5 m a1 p2 p3) k
  subst hp3
  have pre1 : ∀ t, Steps p.tables e below (s₁.setTop (mkF m 1 #[.val (.ref a1), .val (.int p2), .val (.int (0 : Int32))] [(.ref a1)])) t → Steps p.tables e below (s₁.setTop (entryFrame m #[(.ref a1), (.int p2), (.int (0 : Int32))] 3)) t := by
    intro t kt
    refine pre0 t ?_
    show Steps p.tables e below (s₁.setTop (mkF m 0 #[.val (.ref a1), .val (.int p2), .val (.int (0 : Int32))] [])) _
    refine XS.aloadN X0.here hx rfl (hb hby d5_0) rfl rfl ?_
    exact kt
  obtain ⟨cq2, kq2, q2a, q2b, q2c⟩ := isOf hZ e0 E_a1
  obtain ⟨_, _, ⟨T2, L2, k2, n2⟩, -, X2, ⟨Lc2, hQ2, l2, y2, z2⟩, st2⟩ := X0.virtualBack hx (y := (⟨"java/lang/String", "isLatin1", "()Z"⟩ : MethodName)) (z := (⟨"java/lang/String", "isLatin1", "()Z"⟩ : MethodName)) hown (mvT hZ (hw _ (List.mem_of_getElem? (i := 32) rfl))) (mvT hZ (hw _ (List.mem_of_getElem? (i := 33) rfl))) (notFace_of_selects (args := #[]) (mvT hZ (hw _ (List.mem_of_getElem? (i := 35) rfl)))) (mvT hZ (hw _ (List.mem_of_getElem? (i := 35) rfl))) (mvT hZ (hw _ (List.mem_of_getElem? (i := 34) rfl))) (by decide) (backOf (W := 0) (rm6 l Z a0 hw [] a1 cz h0 n0 Z0 ST_COMPACT_STRINGS F_coder_a1 (hCS)) hZ (hw _ (List.mem_of_getElem? (i := 36) rfl)) (hw _ (List.mem_of_getElem? (i := 15) rfl)) (by decide) (by decide)) q2a q2c (g := (mkF m 1 #[.val (.ref a1), .val (.int p2), .val (.int (0 : Int32))] [(.ref a1)])) rfl (by rw [hml]; rfl) (Steps.refl _) (argsL := []) (rest := []) (lenOf pd_4 rfl) rfl (by show 2 * 0 + _ ≤ _; exact Nat.le_of_eq rfl) (hb hby d5_1) (fun _ _ => ⟨rfl, e0, (by decide : 0 + 0 ≤ _), (by decide : 0 + 0 ≤ _)⟩)
  dsimp only [Pt.U, Pt.locs, Pt.cells, Pt.slots] at X2 l2 y2 z2 st2 hQ2
  subst l2 y2 z2
  obtain ⟨rfl, N2q, e2⟩ := hQ2
  have N2 := Fr.app N0 N2q
  have pre2 : ∀ t, Steps p.tables e below (T2.setTop (mkF m 4 #[.val (.ref a1), .val (.int p2), .val (.int (0 : Int32))] [(.int (1 : Int32))])) t → Steps p.tables e below (s₁.setTop (entryFrame m #[(.ref a1), (.int p2), (.int (0 : Int32))] 3)) t := fun t kt => pre1 t (st2.trans kt)
  have pre3 : ∀ t, Steps p.tables e below (T2.setTop (mkF m 8 #[.val (.ref a1), .val (.int p2), .val (.int (0 : Int32))] [(.ref a1)])) t → Steps p.tables e below (s₁.setTop (entryFrame m #[(.ref a1), (.int p2), (.int (0 : Int32))] 3)) t := by
    intro t kt
    refine pre2 t ?_
    show Steps p.tables e below (T2.setTop (mkF m 4 #[.val (.ref a1), .val (.int p2), .val (.int (0 : Int32))] [(.int (1 : Int32))])) _
    refine XS.ifNo X2.here hx rfl (hb hby d5_4) rfl ((if0 _ _).trans (feq (by decide)).1) ?_
    show Steps p.tables e below (T2.setTop (mkF m 7 #[.val (.ref a1), .val (.int p2), .val (.int (0 : Int32))] [])) _
    refine XS.aloadN X2.here hx rfl (hb hby d5_7) rfl rfl ?_
    exact kt
  obtain ⟨T4, X4, e4, st4⟩ := getF X2 hx hZ hown (host := "") (Or.inl (hw _ (List.mem_of_getElem? (i := 39) rfl))) Via.refl e2 F_value_a1 (g := (mkF m 8 #[.val (.ref a1), .val (.int p2), .val (.int (0 : Int32))] [(.ref a1)])) rfl rfl (hb hby d5_8)
  have pre4 : ∀ t, Steps p.tables e below (T4.setTop (mkF m 11 #[.val (.ref a1), .val (.int p2), .val (.int (0 : Int32))] [(.ref tb)])) t → Steps p.tables e below (s₁.setTop (entryFrame m #[(.ref a1), (.int p2), (.int (0 : Int32))] 3)) t := fun t kt => pre3 t (st4 _ kt)
  have pre5 : ∀ t, Steps p.tables e below (T4.setTop (mkF m 14 #[.val (.ref a1), .val (.int p2), .val (.int (0 : Int32))] [(.ref a1), (.int (0 : Int32)), (.int p2), (.ref tb)])) t → Steps p.tables e below (s₁.setTop (entryFrame m #[(.ref a1), (.int p2), (.int (0 : Int32))] 3)) t := by
    intro t kt
    refine pre4 t ?_
    show Steps p.tables e below (T4.setTop (mkF m 11 #[.val (.ref a1), .val (.int p2), .val (.int (0 : Int32))] [(.ref tb)])) _
    refine XS.iloadN X4.here hx rfl (hb hby d5_11) rfl ?_
    show Steps p.tables e below (T4.setTop (mkF m 12 #[.val (.ref a1), .val (.int p2), .val (.int (0 : Int32))] [(.int p2), (.ref tb)])) _
    refine XS.iloadN X4.here hx rfl (hb hby d5_12) rfl ?_
    show Steps p.tables e below (T4.setTop (mkF m 13 #[.val (.ref a1), .val (.int p2), .val (.int (0 : Int32))] [(.int (0 : Int32)), (.int p2), (.ref tb)])) _
    refine XS.aloadN X4.here hx rfl (hb hby d5_13) rfl rfl ?_
    exact kt
  obtain ⟨cq6, kq6, q6a, q6b, q6c⟩ := isOf hZ e4 E_a1
  obtain ⟨_, _, ⟨T6, L6, k6, n6⟩, -, X6, ⟨Lc6, hQ6, l6, y6, z6⟩, st6⟩ := X4.virtualBack hx (y := (⟨"java/lang/String", "length", "()I"⟩ : MethodName)) (z := (⟨"java/lang/String", "length", "()I"⟩ : MethodName)) hown (mvT hZ (hw _ (List.mem_of_getElem? (i := 40) rfl))) (mvT hZ (hw _ (List.mem_of_getElem? (i := 41) rfl))) (notFace_of_selects (args := #[]) (mvT hZ (hw _ (List.mem_of_getElem? (i := 43) rfl)))) (mvT hZ (hw _ (List.mem_of_getElem? (i := 43) rfl))) (mvT hZ (hw _ (List.mem_of_getElem? (i := 42) rfl))) (by decide) (backOf (W := 3) (rm7 l Z a0 hw [] a1 tb kd ((cs.map fun c => c.toInt8.toInt32).map Value.int) ln cz h0 n0 Z0 E_a1 F_value_a1 F_coder_a1 V_tb ST_COMPACT_STRINGS (hCS)) hZ (hw _ (List.mem_of_getElem? (i := 44) rfl)) (hw _ (List.mem_of_getElem? (i := 15) rfl)) (by decide) (by decide)) q6a q6c (g := (mkF m 14 #[.val (.ref a1), .val (.int p2), .val (.int (0 : Int32))] [(.ref a1), (.int (0 : Int32)), (.int p2), (.ref tb)])) rfl (by rw [hml]; rfl) (Steps.refl _) (argsL := []) (rest := [(.int (0 : Int32)), (.int p2), (.ref tb)]) (lenOf pd_5 rfl) rfl (by show 2 * 0 + _ ≤ _; exact Nat.le_of_eq rfl) (hb hby d5_14) (fun _ _ => ⟨rfl, e4, (by decide : 0 + 0 ≤ _), (by decide : 0 + 0 ≤ _)⟩)
  dsimp only [Pt.U, Pt.locs, Pt.cells, Pt.slots] at X6 l6 y6 z6 st6 hQ6
  subst l6 y6 z6
  obtain ⟨rfl, N6q, e6⟩ := hQ6
  have N6 := Fr.app N2 N6q
  have pre6 : ∀ t, Steps p.tables e below (T6.setTop (mkF m 17 #[.val (.ref a1), .val (.int p2), .val (.int (0 : Int32))] [(.int ln), (.int (0 : Int32)), (.int p2), (.ref tb)])) t → Steps p.tables e below (s₁.setTop (entryFrame m #[(.ref a1), (.int p2), (.int (0 : Int32))] 3)) t := fun t kt => pre5 t (st6.trans kt)
  obtain ⟨_, _, ⟨T7, L7, k7, n7⟩, -, X7, ⟨Lc7, hQ7, l7, y7, z7⟩, st7⟩ := Jvm.LawKit.callS X6 hx (y := (⟨"java/lang/StringLatin1", "indexOf", "([BIII)I"⟩ : MethodName)) hown (mvT hZ (hw _ (List.mem_of_getElem? (i := 50) rfl))) (mvT hZ (hw _ (List.mem_of_getElem? (i := 51) rfl))) (mvT hZ (hw _ (List.mem_of_getElem? (i := 52) rfl))) (mvT hZ (hw _ (List.mem_of_getElem? (i := 53) rfl))) (by decide) (backOf (W := 0) (rm9 l Z a0 hw [] tb p2 (0 : Int32) ln kd cs ln h0 n0 Z0 V_tb (hl) (hcs) (rfl) (rfl)) hZ (hw _ (List.mem_of_getElem? (i := 53) rfl)) (hw _ (List.mem_of_getElem? (i := 52) rfl)) (by decide) (by decide)) (g := (mkF m 17 #[.val (.ref a1), .val (.int p2), .val (.int (0 : Int32))] [(.int ln), (.int (0 : Int32)), (.int p2), (.ref tb)])) rfl (by rw [hml]; rfl) (argsL := [(.ref tb), (.int p2), (.int (0 : Int32)), (.int ln)]) (rest := []) (lenOf pd_3 rfl) rfl (by show 2 * 0 + _ ≤ _; exact Nat.le_of_eq rfl) (hb hby d5_17) (fun _ _ => ⟨rfl, e6, (by decide : 0 + 0 ≤ _), (by decide : 0 + 0 ≤ _)⟩)
  dsimp only [Pt.U, Pt.locs, Pt.cells, Pt.slots] at X7 l7 y7 z7 st7 hQ7
  subst l7 y7 z7
  obtain ⟨rz_7, rfl, N7q, e7, R7_0⟩ := hQ7
  have N7 := Fr.app N6 N7q
  have pre7 : ∀ t, Steps p.tables e below (T7.setTop (mkF m 20 #[.val (.ref a1), .val (.int p2), .val (.int (0 : Int32))] [(.int rz_7)])) t → Steps p.tables e below (s₁.setTop (entryFrame m #[(.ref a1), (.int p2), (.int (0 : Int32))] 3)) t := fun t kt => pre6 t (st7 _ kt)
  have pre8 : ∀ t, Steps p.tables e below (T7.setTop (mkF m 36 #[.val (.ref a1), .val (.int p2), .val (.int (0 : Int32))] [(.int rz_7)])) t → Steps p.tables e below (s₁.setTop (entryFrame m #[(.ref a1), (.int p2), (.int (0 : Int32))] 3)) t := by
    intro t kt
    refine pre7 t ?_
    show Steps p.tables e below (T7.setTop (mkF m 20 #[.val (.ref a1), .val (.int p2), .val (.int (0 : Int32))] [(.int rz_7)])) _
    refine XS.goto X7.here hx rfl (pc0 := 20) (pc' := 36) rfl (hb hby d5_20) (by decide) (by decide) ?_
    exact kt
  obtain ⟨fs, hr, hrun, hended, hW, hsame⟩ := X7.leave (v := some (.int rz_7)) (fun h => by rw [Bd.returns] at h; cases h)
  refine ⟨_, _, pre8 _ ?_, hrun, hended, _, _, rfl, ?_, ⟨_, rfl⟩, hW, hsame.mono (by decide) (by decide)⟩
  · show Steps p.tables e below (T7.setTop (mkF m 36 #[.val (.ref a1), .val (.int p2), .val (.int (0 : Int32))] [(.int rz_7)])) _
    exact retI X7 hx Bd.returns (hb hby d5_36) hr
  · show Qrm5 Z a1 p2 (0 : Int32) tb kd cs ln cz h0 n0 _ T7.heap _
    rw [e7]
    exact ⟨rz_7, rfl, N7, rfl, R7_0⟩
def Qrm4 (Z : State) (a1 : Addr) (p2 : Int32) (tb : Addr) (kd : ClassId) (cs : List Int32) (ln : Int32) (cz : Int32) (h0 : Heap) (n0 : Nat) (v : Option Value) (h : Heap) (L : List Loc) : Prop := ∃ (rz : Int32), v = some (.int rz) ∧ Fr n0 L ∧ h = h0 ∧ (rz < 0 ∨ p2 ∈ cs)
theorem d4_0 : decode jdk_42_method_79_code 0 = .ok (.aload_n 0, 1) := by decide +kernel
theorem d4_1 : decode jdk_42_method_79_code 1 = .ok (.iload_n 1, 1) := by decide +kernel
theorem d4_2 : decode jdk_42_method_79_code 2 = .ok (.iconst 0, 1) := by decide +kernel
theorem d4_3 : decode jdk_42_method_79_code 3 = .ok (.invokevirtual 633, 3) := by decide +kernel
theorem d4_6 : decode jdk_42_method_79_code 6 = .ok (.ireturn, 1) := by decide +kernel
theorem ef_4 (m : MethodId) (x0 : Addr) (x1 : Int32) : entryFrame m #[(.ref x0), (.int x1)] 2 = mkF m 0 #[.val (.ref x0), .val (.int x1)] [] := by first | (simp [entryFrame, mkF, argsToLocals, Value.category]; done) | rfl
set_option maxRecDepth 65536 in
set_option maxHeartbeats 40000000 in
theorem rm4 (l : Launch) (Z : State) (a0 : Array Value) (hw : ∀ d ∈ tables_1, d.before a0 Z = true) (ws : List Jvm.Cond) (a1 : Addr) (p2 : Int32) (tb : Addr) (kd : ClassId) (cs : List Int32) (ln : Int32) (cz : Int32) (h0 : Heap) (n0 : Nat) (Z0 : n0 ≤ h0.size) (E_a1 : Exa Z h0 a1 "java/lang/String") (F_value_a1 : Fld Z h0 a1 "java/lang/String" "value" "[B" (.ref tb)) (F_coder_a1 : Fld Z h0 a1 "java/lang/String" "coder" "B" (.int (0 : Int32))) (V_tb : Arv Z h0 tb kd .byte ln ((cs.map fun c => c.toInt8.toInt32).map Value.int) (.int (0 : Int32))) (ST_COMPACT_STRINGS : Sta Z h0 "java/lang/String" "COMPACT_STRINGS" "Z" (.int cz)) (hCS : ¬ (cz = (0 : Int32))) (hl : ln = Int32.ofNat cs.length ∧ cs.length ≤ 4000) (hcs : ∀ c ∈ cs, ¬ c < 0 ∧ ¬ (255 : Int32) < c) :
    MetFree l (⟨"java/lang/String", "indexOf", "(I)I"⟩ : MethodName) (head1 (Jvm.Cond.code (⟨"java/lang/String", "indexOf", "(I)I"⟩ : MethodName) jdk_42_method_79_code 2 (some .int) :: ws) ({ frames := 3, cells := 0, slots := 0, locals := 46 } : Room)) (fun a U => a = #[(.ref a1), (.int p2)] ∧ Z.Warmed39 U.vm ∧ U.heap = h0) (fun _ _ _ _ _ => True) (fun _ U o U' => ∃ v L, o = .returned v ∧ Qrm4 Z a1 p2 tb kd cs ln cz h0 n0 v U'.heap L ∧ FrameEnd U o U' L ({ frames := 3, cells := 0, slots := 0, locals := 46 } : Room).cells ({ frames := 3, cells := 0, slots := 0, locals := 46 } : Room).slots) := by
  refine MetFree.of_bodySF (plainFor_of_name pn_2) hisR ?_
  intro p e s m args below meth c s₁ Bd hml0 hP hK
  obtain ⟨rfl, hZ, hh⟩ := hP
  have hx := Bd.exec
  have hby := Bd.bytes
  have hml : c.maxLocals = 2 := hml0
  have hown : s.vm.findClass "java/lang/String" = some m.cls := findClass_of_methodNamed Bd.named
  have hnm := (name_of_methodNamed Bd.named Bd.method).1
  have X0 : Stand p l e ({ frames := 3, cells := 0, slots := 0, locals := 46 } : Room) s m #[(.ref a1), (.int p2)] below meth c s₁ [] 0 0 := Stand.of_body Bd
  have e0 : s₁.heap = h0 := by rw [← hh, Bd.state]; rfl
  have N0 := Fr.nil n0
  have pre0 : ∀ t, Steps p.tables e below (s₁.setTop (mkF m 0 #[.val (.ref a1), .val (.int p2)] [])) t → Steps p.tables e below (s₁.setTop (entryFrame m #[(.ref a1), (.int p2)] 2)) t := fun t k => castTop (ef_4 m a1 p2) k
  have pre1 : ∀ t, Steps p.tables e below (s₁.setTop (mkF m 3 #[.val (.ref a1), .val (.int p2)] [(.int (0 : Int32)), (.int p2), (.ref a1)])) t → Steps p.tables e below (s₁.setTop (entryFrame m #[(.ref a1), (.int p2)] 2)) t := by
    intro t kt
    refine pre0 t ?_
    show Steps p.tables e below (s₁.setTop (mkF m 0 #[.val (.ref a1), .val (.int p2)] [])) _
    refine XS.aloadN X0.here hx rfl (hb hby d4_0) rfl rfl ?_
    show Steps p.tables e below (s₁.setTop (mkF m 1 #[.val (.ref a1), .val (.int p2)] [(.ref a1)])) _
    refine XS.iloadN X0.here hx rfl (hb hby d4_1) rfl ?_
    show Steps p.tables e below (s₁.setTop (mkF m 2 #[.val (.ref a1), .val (.int p2)] [(.int p2), (.ref a1)])) _
    refine XS.iconst X0.here hx rfl (hb hby d4_2) ?_
    exact kt
  obtain ⟨cq2, kq2, q2a, q2b, q2c⟩ := isOf hZ e0 E_a1
  obtain ⟨_, _, ⟨T2, L2, k2, n2⟩, -, X2, ⟨Lc2, hQ2, l2, y2, z2⟩, st2⟩ := X0.virtualBack hx (y := (⟨"java/lang/String", "indexOf", "(II)I"⟩ : MethodName)) (z := (⟨"java/lang/String", "indexOf", "(II)I"⟩ : MethodName)) hown (mvT hZ (hw _ (List.mem_of_getElem? (i := 27) rfl))) (mvT hZ (hw _ (List.mem_of_getElem? (i := 28) rfl))) (notFace_of_selects (args := #[]) (mvT hZ (hw _ (List.mem_of_getElem? (i := 30) rfl)))) (mvT hZ (hw _ (List.mem_of_getElem? (i := 30) rfl))) (mvT hZ (hw _ (List.mem_of_getElem? (i := 29) rfl))) (by decide) (backOf (W := 0) (rm5 l Z a0 hw [] a1 p2 (0 : Int32) tb kd cs ln cz h0 n0 Z0 E_a1 F_value_a1 F_coder_a1 V_tb ST_COMPACT_STRINGS (hCS) (hl) (hcs) (rfl)) hZ (hw _ (List.mem_of_getElem? (i := 31) rfl)) (hw _ (List.mem_of_getElem? (i := 15) rfl)) (by decide) (by decide)) q2a q2c (g := (mkF m 3 #[.val (.ref a1), .val (.int p2)] [(.int (0 : Int32)), (.int p2), (.ref a1)])) rfl (by rw [hml]; rfl) (Steps.refl _) (argsL := [(.int p2), (.int (0 : Int32))]) (rest := []) (lenOf pd_2 rfl) rfl (by show 2 * 0 + _ ≤ _; exact Nat.le_of_eq rfl) (hb hby d4_3) (fun _ _ => ⟨rfl, e0, (by decide : 0 + 0 ≤ _), (by decide : 0 + 0 ≤ _)⟩)
  dsimp only [Pt.U, Pt.locs, Pt.cells, Pt.slots] at X2 l2 y2 z2 st2 hQ2
  subst l2 y2 z2
  obtain ⟨rz_2, rfl, N2q, e2, R2_0⟩ := hQ2
  have N2 := Fr.app N0 N2q
  have pre2 : ∀ t, Steps p.tables e below (T2.setTop (mkF m 6 #[.val (.ref a1), .val (.int p2)] [(.int rz_2)])) t → Steps p.tables e below (s₁.setTop (entryFrame m #[(.ref a1), (.int p2)] 2)) t := fun t kt => pre1 t (st2.trans kt)
  obtain ⟨fs, hr, hrun, hended, hW, hsame⟩ := X2.leave (v := some (.int rz_2)) (fun h => by rw [Bd.returns] at h; cases h)
  refine ⟨_, _, pre2 _ ?_, hrun, hended, _, _, rfl, ?_, ⟨_, rfl⟩, hW, hsame.mono (by decide) (by decide)⟩
  · show Steps p.tables e below (T2.setTop (mkF m 6 #[.val (.ref a1), .val (.int p2)] [(.int rz_2)])) _
    exact retI X2 hx Bd.returns (hb hby d4_6) hr
  · show Qrm4 Z a1 p2 tb kd cs ln cz h0 n0 _ T2.heap _
    rw [e2]
    exact ⟨rz_2, rfl, N2, rfl, R2_0⟩
def Qrm3 (Z : State) (p1 : Int32) (cz : Int32) (h0 : Heap) (n0 : Nat) (v : Option Value) (h : Heap) (L : List Loc) : Prop := ∃ (rz : Int32), v = some (.int rz) ∧ Fr n0 L ∧ Keep h0 h [] ∧ (rz = 0 ∨ (¬ p1 < (32 : Int32) ∧ ¬ (126 : Int32) < p1))
theorem d3_0 : decode prog_9_method_2_code 0 = .ok (.iload_n 0, 1) := by decide +kernel
theorem d3_1 : decode prog_9_method_2_code 1 = .ok (.bipush 97, 2) := by decide +kernel
theorem d3_3 : decode prog_9_method_2_code 3 = .ok (.if_icmp .lt 9, 3) := by decide +kernel
theorem d3_6 : decode prog_9_method_2_code 6 = .ok (.iload_n 0, 1) := by decide +kernel
theorem d3_7 : decode prog_9_method_2_code 7 = .ok (.bipush 122, 2) := by decide +kernel
theorem d3_9 : decode prog_9_method_2_code 9 = .ok (.if_icmp .le 36, 3) := by decide +kernel
theorem d3_12 : decode prog_9_method_2_code 12 = .ok (.iload_n 0, 1) := by decide +kernel
theorem d3_13 : decode prog_9_method_2_code 13 = .ok (.bipush 65, 2) := by decide +kernel
theorem d3_15 : decode prog_9_method_2_code 15 = .ok (.if_icmp .lt 9, 3) := by decide +kernel
theorem d3_18 : decode prog_9_method_2_code 18 = .ok (.iload_n 0, 1) := by decide +kernel
theorem d3_19 : decode prog_9_method_2_code 19 = .ok (.bipush 90, 2) := by decide +kernel
theorem d3_21 : decode prog_9_method_2_code 21 = .ok (.if_icmp .le 24, 3) := by decide +kernel
theorem d3_24 : decode prog_9_method_2_code 24 = .ok (.iload_n 0, 1) := by decide +kernel
theorem d3_25 : decode prog_9_method_2_code 25 = .ok (.bipush 48, 2) := by decide +kernel
theorem d3_27 : decode prog_9_method_2_code 27 = .ok (.if_icmp .lt 9, 3) := by decide +kernel
theorem d3_30 : decode prog_9_method_2_code 30 = .ok (.iload_n 0, 1) := by decide +kernel
theorem d3_31 : decode prog_9_method_2_code 31 = .ok (.bipush 57, 2) := by decide +kernel
theorem d3_33 : decode prog_9_method_2_code 33 = .ok (.if_icmp .le 12, 3) := by decide +kernel
theorem d3_36 : decode prog_9_method_2_code 36 = .ok (.ldc 9, 2) := by decide +kernel
theorem d3_38 : decode prog_9_method_2_code 38 = .ok (.iload_n 0, 1) := by decide +kernel
theorem d3_39 : decode prog_9_method_2_code 39 = .ok (.invokevirtual 11, 3) := by decide +kernel
theorem d3_42 : decode prog_9_method_2_code 42 = .ok (.ifCond .lt 7, 3) := by decide +kernel
theorem d3_45 : decode prog_9_method_2_code 45 = .ok (.iconst 1, 1) := by decide +kernel
theorem d3_46 : decode prog_9_method_2_code 46 = .ok (.goto 4, 3) := by decide +kernel
theorem d3_49 : decode prog_9_method_2_code 49 = .ok (.iconst 0, 1) := by decide +kernel
theorem d3_50 : decode prog_9_method_2_code 50 = .ok (.ireturn, 1) := by decide +kernel
theorem ef_3 (m : MethodId) (x0 : Int32) : entryFrame m #[(.int x0)] 1 = mkF m 0 #[.val (.int x0)] [] := by first | (simp [entryFrame, mkF, argsToLocals, Value.category]; done) | rfl
set_option maxRecDepth 65536 in
set_option maxHeartbeats 40000000 in
theorem rm3 (l : Launch) (Z : State) (a0 : Array Value) (hw : ∀ d ∈ tables_1, d.before a0 Z = true) (ws : List Jvm.Cond) (p1 : Int32) (cz : Int32) (h0 : Heap) (n0 : Nat) (Z0 : n0 ≤ h0.size) (ST_COMPACT_STRINGS : Sta Z h0 "java/lang/String" "COMPACT_STRINGS" "Z" (.int cz)) (hCS : ¬ (cz = (0 : Int32))) :
    MetFree l (⟨"com/example/cormorant/cormorant/job/HttpSyntax", "isTokenChar", "(I)Z"⟩ : MethodName) (head1 (Jvm.Cond.code (⟨"com/example/cormorant/cormorant/job/HttpSyntax", "isTokenChar", "(I)Z"⟩ : MethodName) prog_9_method_2_code 1 (some .boolean) :: ws) ({ frames := 4, cells := 2, slots := 64, locals := 59 } : Room)) (fun a U => a = #[(.int p1)] ∧ Z.Warmed39 U.vm ∧ U.heap = h0 ∧ CHv Z EL U.vm h0) (fun _ _ _ _ _ => True) (fun _ U o U' => ∃ v L, o = .returned v ∧ Qrm3 Z p1 cz h0 n0 v U'.heap L ∧ CHr Z EL U.vm U.heap U'.vm U'.heap ∧ ReturnedEndW U o U' L ({ frames := 4, cells := 2, slots := 64, locals := 59 } : Room).cells ({ frames := 4, cells := 2, slots := 64, locals := 59 } : Room).slots) := by
  refine MetFree.of_bodySF (plainFor_of_name pn_0) hisR ?_
  intro p e s m args below meth c s₁ Bd hml0 hP hK
  obtain ⟨rfl, hZ, hh, hCH⟩ := hP
  have hS0 : s.Since s.vm 0 := (State.WarmedH.refl s).since 0
  have CR0 : CHr Z EL s.vm h0 s.vm h0 := CHr.refl hCH
  have hx := Bd.exec
  have hby := Bd.bytes
  have hml : c.maxLocals = 1 := hml0
  have hown : s.vm.findClass "com/example/cormorant/cormorant/job/HttpSyntax" = some m.cls := findClass_of_methodNamed Bd.named
  have hnm := (name_of_methodNamed Bd.named Bd.method).1
  have X0 : Stand p l e ({ frames := 4, cells := 2, slots := 64, locals := 59 } : Room) s m #[(.int p1)] below meth c s₁ [] 0 0 := Stand.of_body Bd
  have e0 : s₁.heap = h0 := by rw [← hh, Bd.state]; rfl
  have N0 := Fr.nil n0
  have pre0 : ∀ t, Steps p.tables e below (s₁.setTop (mkF m 0 #[.val (.int p1)] [])) t → Steps p.tables e below (s₁.setTop (entryFrame m #[(.int p1)] 1)) t := fun t k => castTop (ef_3 m p1) k
  have hEL : EW Z a0 EL := own_EW hw
  have wS : ∀ a ∈ Bundle.stringAtoms, a.before a0 Z = true := fun d hd => hw d ((by decide +kernel : ∀ d ∈ Bundle.stringAtoms, d ∈ tables_1) d hd)
  have pre1 : ∀ t, Steps p.tables e below (s₁.setTop (mkF m 3 #[.val (.int p1)] [(.int (97 : Int32)), (.int p1)])) t → Steps p.tables e below (s₁.setTop (entryFrame m #[(.int p1)] 1)) t := by
    intro t kt
    refine pre0 t ?_
    show Steps p.tables e below (s₁.setTop (mkF m 0 #[.val (.int p1)] [])) _
    refine XS.iloadN X0.here hx rfl (hb hby d3_0) rfl ?_
    show Steps p.tables e below (s₁.setTop (mkF m 1 #[.val (.int p1)] [(.int p1)])) _
    refine XS.bipush X0.here hx rfl (hb hby d3_1) ?_
    exact kt
  by_cases hc3 : p1 < (97 : Int32)
  · have pre2 : ∀ t, Steps p.tables e below (s₁.setTop (mkF m 12 #[.val (.int p1)] [])) t → Steps p.tables e below (s₁.setTop (entryFrame m #[(.int p1)] 1)) t := by
      intro t kt
      refine pre1 t ?_
      show Steps p.tables e below (s₁.setTop (mkF m 3 #[.val (.int p1)] [(.int (97 : Int32)), (.int p1)])) _
      refine XS.icmpYes X0.here hx rfl (pc0 := 3) (pc' := 12) rfl (hb hby d3_3) rfl (tlt hc3).1 (by decide) (by decide) ?_
      exact kt
    have pre3 : ∀ t, Steps p.tables e below (s₁.setTop (mkF m 15 #[.val (.int p1)] [(.int (65 : Int32)), (.int p1)])) t → Steps p.tables e below (s₁.setTop (entryFrame m #[(.int p1)] 1)) t := by
      intro t kt
      refine pre2 t ?_
      show Steps p.tables e below (s₁.setTop (mkF m 12 #[.val (.int p1)] [])) _
      refine XS.iloadN X0.here hx rfl (hb hby d3_12) rfl ?_
      show Steps p.tables e below (s₁.setTop (mkF m 13 #[.val (.int p1)] [(.int p1)])) _
      refine XS.bipush X0.here hx rfl (hb hby d3_13) ?_
      exact kt
    by_cases hc15 : p1 < (65 : Int32)
    · have pre4 : ∀ t, Steps p.tables e below (s₁.setTop (mkF m 24 #[.val (.int p1)] [])) t → Steps p.tables e below (s₁.setTop (entryFrame m #[(.int p1)] 1)) t := by
        intro t kt
        refine pre3 t ?_
        show Steps p.tables e below (s₁.setTop (mkF m 15 #[.val (.int p1)] [(.int (65 : Int32)), (.int p1)])) _
        refine XS.icmpYes X0.here hx rfl (pc0 := 15) (pc' := 24) rfl (hb hby d3_15) rfl (tlt hc15).1 (by decide) (by decide) ?_
        exact kt
      have pre5 : ∀ t, Steps p.tables e below (s₁.setTop (mkF m 27 #[.val (.int p1)] [(.int (48 : Int32)), (.int p1)])) t → Steps p.tables e below (s₁.setTop (entryFrame m #[(.int p1)] 1)) t := by
        intro t kt
        refine pre4 t ?_
        show Steps p.tables e below (s₁.setTop (mkF m 24 #[.val (.int p1)] [])) _
        refine XS.iloadN X0.here hx rfl (hb hby d3_24) rfl ?_
        show Steps p.tables e below (s₁.setTop (mkF m 25 #[.val (.int p1)] [(.int p1)])) _
        refine XS.bipush X0.here hx rfl (hb hby d3_25) ?_
        exact kt
      by_cases hc27 : p1 < (48 : Int32)
      · have pre6 : ∀ t, Steps p.tables e below (s₁.setTop (mkF m 36 #[.val (.int p1)] [])) t → Steps p.tables e below (s₁.setTop (entryFrame m #[(.int p1)] 1)) t := by
          intro t kt
          refine pre5 t ?_
          show Steps p.tables e below (s₁.setTop (mkF m 27 #[.val (.int p1)] [(.int (48 : Int32)), (.int p1)])) _
          refine XS.icmpYes X0.here hx rfl (pc0 := 27) (pc' := 36) rfl (hb hby d3_27) rfl (tlt hc27).1 (by decide) (by decide) ?_
          exact kt
        obtain ⟨a7, T7, h7, k7, b7, kb7, X7, e7, E7, hS7, hk7, hZ, hown, A7, C7, F7, V7, la7, lb7, CQ7, Li7, sf7, st7⟩ := ldcCH (s := s) (vm0 := s.vm) (text := own_t14) X0 hx hZ hown (hw _ (List.mem_of_getElem? (i := 14) rfl)) wS e0 hS0 (Nat.zero_le _) hEL own_mem14 CR0.1 (vs := (own_cs14.map fun c => c.toInt8.toInt32).map Value.int) (z := (15 : Int32)) own_ht14 (by decide) (by decide +kernel) (g := (mkF m 36 #[.val (.int p1)] [])) rfl (hb hby d3_36) (n := 60) (by decide +kernel) (by decide) (by decide) (by decide)
        have K7 : Keep h0 h7 [] := (Keep.refl h0 []).ext E7
        have Z7 : n0 ≤ h7.size := Nat.le_trans Z0 E7.1
        have mo7_0 := Nat.le_trans (Nat.zero_le _) E7.1
        have ST_COMPACT_STRINGS_8 := ST_COMPACT_STRINGS.ext E7
        have CR7 := CR0.trans CQ7
        have pre7 : ∀ t, Steps p.tables e below (T7.setTop (mkF m 38 #[.val (.int p1)] [(.ref a7)])) t → Steps p.tables e below (s₁.setTop (entryFrame m #[(.int p1)] 1)) t := fun t kt => pre6 t (st7 _ kt)
        have pre9 : ∀ t, Steps p.tables e below (T7.setTop (mkF m 39 #[.val (.int p1)] [(.int p1), (.ref a7)])) t → Steps p.tables e below (s₁.setTop (entryFrame m #[(.int p1)] 1)) t := by
          intro t kt
          refine pre7 t ?_
          show Steps p.tables e below (T7.setTop (mkF m 38 #[.val (.int p1)] [(.ref a7)])) _
          refine XS.iloadN X7.here hx rfl (hb hby d3_38) rfl ?_
          exact kt
        obtain ⟨cq10, kq10, q10a, q10b, q10c⟩ := isOf hZ e7 A7
        obtain ⟨_, _, ⟨T10, L10, k10, n10⟩, -, X10, ⟨Lc10, hQ10, l10, y10, z10⟩, st10⟩ := X7.virtualBack hx (y := (⟨"java/lang/String", "indexOf", "(I)I"⟩ : MethodName)) (z := (⟨"java/lang/String", "indexOf", "(I)I"⟩ : MethodName)) hown (mvT hZ (hw _ (List.mem_of_getElem? (i := 22) rfl))) (mvT hZ (hw _ (List.mem_of_getElem? (i := 23) rfl))) (notFace_of_selects (args := #[]) (mvT hZ (hw _ (List.mem_of_getElem? (i := 25) rfl)))) (mvT hZ (hw _ (List.mem_of_getElem? (i := 25) rfl))) (mvT hZ (hw _ (List.mem_of_getElem? (i := 24) rfl))) (by decide) (backOf (W := 0) (rm4 l Z a0 hw [] a7 p1 b7 kb7 own_cs14 (15 : Int32) cz h7 n0 Z7 A7 F7 C7 V7 ST_COMPACT_STRINGS_8 (hCS) (own_hl14) (own_hc14)) hZ (hw _ (List.mem_of_getElem? (i := 26) rfl)) (hw _ (List.mem_of_getElem? (i := 15) rfl)) (by decide) (by decide)) q10a q10c (g := (mkF m 39 #[.val (.int p1)] [(.int p1), (.ref a7)])) rfl (by rw [hml]; rfl) (Steps.refl _) (argsL := [(.int p1)]) (rest := []) (lenOf pd_6 rfl) rfl (by show 2 * 0 + _ ≤ _; exact Nat.le_of_eq rfl) (hb hby d3_39) (fun _ _ => ⟨rfl, e7, (by decide : 2 + 0 ≤ _), (by decide : 64 + 0 ≤ _)⟩)
        dsimp only [Pt.U, Pt.locs, Pt.cells, Pt.slots] at X10 l10 y10 z10 st10 hQ10
        subst l10 y10 z10
        obtain ⟨rz_10, rfl, N10q, e10, R10_0⟩ := hQ10
        have N10 := Fr.app N0 N10q
        have pre10 : ∀ t, Steps p.tables e below (T10.setTop (mkF m 42 #[.val (.int p1)] [(.int rz_10)])) t → Steps p.tables e below (s₁.setTop (entryFrame m #[(.int p1)] 1)) t := fun t kt => pre9 t (st10.trans kt)
        by_cases hc42 : rz_10 < (0 : Int32)
        · have pre11 : ∀ t, Steps p.tables e below (T10.setTop (mkF m 49 #[.val (.int p1)] [])) t → Steps p.tables e below (s₁.setTop (entryFrame m #[(.int p1)] 1)) t := by
            intro t kt
            refine pre10 t ?_
            show Steps p.tables e below (T10.setTop (mkF m 42 #[.val (.int p1)] [(.int rz_10)])) _
            refine XS.ifYes X10.here hx rfl (pc0 := 42) (pc' := 49) rfl (hb hby d3_42) rfl ((if0 _ _).trans (tlt hc42).1) (by decide) (by decide) ?_
            exact kt
          have pre12 : ∀ t, Steps p.tables e below (T10.setTop (mkF m 50 #[.val (.int p1)] [(.int (0 : Int32))])) t → Steps p.tables e below (s₁.setTop (entryFrame m #[(.int p1)] 1)) t := by
            intro t kt
            refine pre11 t ?_
            show Steps p.tables e below (T10.setTop (mkF m 49 #[.val (.int p1)] [])) _
            refine XS.iconst X10.here hx rfl (hb hby d3_49) ?_
            exact kt
          obtain ⟨fs, hr, hrun, hended, hEnd⟩ := X10.leaveW (s := s) (vm₁ := T7.vm) hS7 (by rw [e10]; exact hk7) (v := some (.int (0 : Int32))) (fun h => by rw [Bd.returns] at h; cases h)
          refine ⟨_, _, pre12 _ ?_, hrun, hended, _, _, rfl, ?_, (by rw [hh]; exact CR7.trans (by rw [show (T10.setFrames fs).heap = h7 from e10]; exact (show CHr Z EL T7.vm h7 T10.vm h7 from CHv.at (s := s) (vm0 := T7.vm) X10 hZ hEL CR7.1))), hEnd.1, hEnd.2.1, hEnd.2.2.1, hEnd.2.2.2.mono (by decide) (by decide)⟩
          · show Steps p.tables e below (T10.setTop (mkF m 50 #[.val (.int p1)] [(.int (0 : Int32))])) _
            exact retN X10 hx (t := .boolean) Bd.returns (by simp) (hb hby d3_50) hr
          · show Qrm3 Z p1 cz h0 n0 _ T10.heap _
            rw [e10]
            exact ⟨(0 : Int32), rfl, N10, K7, Or.inl rfl⟩
        · have pre13 : ∀ t, Steps p.tables e below (T10.setTop (mkF m 45 #[.val (.int p1)] [])) t → Steps p.tables e below (s₁.setTop (entryFrame m #[(.int p1)] 1)) t := by
            intro t kt
            refine pre10 t ?_
            show Steps p.tables e below (T10.setTop (mkF m 42 #[.val (.int p1)] [(.int rz_10)])) _
            refine XS.ifNo X10.here hx rfl (hb hby d3_42) rfl ((if0 _ _).trans (flt hc42).1) ?_
            exact kt
          have pre14 : ∀ t, Steps p.tables e below (T10.setTop (mkF m 50 #[.val (.int p1)] [(.int (1 : Int32))])) t → Steps p.tables e below (s₁.setTop (entryFrame m #[(.int p1)] 1)) t := by
            intro t kt
            refine pre13 t ?_
            show Steps p.tables e below (T10.setTop (mkF m 45 #[.val (.int p1)] [])) _
            refine XS.iconst X10.here hx rfl (hb hby d3_45) ?_
            show Steps p.tables e below (T10.setTop (mkF m 46 #[.val (.int p1)] [(.int (1 : Int32))])) _
            refine XS.goto X10.here hx rfl (pc0 := 46) (pc' := 50) rfl (hb hby d3_46) (by decide) (by decide) ?_
            exact kt
          obtain ⟨fs, hr, hrun, hended, hEnd⟩ := X10.leaveW (s := s) (vm₁ := T7.vm) hS7 (by rw [e10]; exact hk7) (v := some (.int (1 : Int32))) (fun h => by rw [Bd.returns] at h; cases h)
          refine ⟨_, _, pre14 _ ?_, hrun, hended, _, _, rfl, ?_, (by rw [hh]; exact CR7.trans (by rw [show (T10.setFrames fs).heap = h7 from e10]; exact (show CHr Z EL T7.vm h7 T10.vm h7 from CHv.at (s := s) (vm0 := T7.vm) X10 hZ hEL CR7.1))), hEnd.1, hEnd.2.1, hEnd.2.2.1, hEnd.2.2.2.mono (by decide) (by decide)⟩
          · show Steps p.tables e below (T10.setTop (mkF m 50 #[.val (.int p1)] [(.int (1 : Int32))])) _
            exact retN X10 hx (t := .boolean) Bd.returns (by simp) (hb hby d3_50) hr
          · show Qrm3 Z p1 cz h0 n0 _ T10.heap _
            rw [e10]
            exact ⟨(1 : Int32), rfl, N10, K7, (own_tokS (R10_0.resolve_left hc42))⟩
      · have pre15 : ∀ t, Steps p.tables e below (s₁.setTop (mkF m 30 #[.val (.int p1)] [])) t → Steps p.tables e below (s₁.setTop (entryFrame m #[(.int p1)] 1)) t := by
          intro t kt
          refine pre5 t ?_
          show Steps p.tables e below (s₁.setTop (mkF m 27 #[.val (.int p1)] [(.int (48 : Int32)), (.int p1)])) _
          refine XS.icmpNo X0.here hx rfl (hb hby d3_27) rfl (flt hc27).1 ?_
          exact kt
        have pre16 : ∀ t, Steps p.tables e below (s₁.setTop (mkF m 33 #[.val (.int p1)] [(.int (57 : Int32)), (.int p1)])) t → Steps p.tables e below (s₁.setTop (entryFrame m #[(.int p1)] 1)) t := by
          intro t kt
          refine pre15 t ?_
          show Steps p.tables e below (s₁.setTop (mkF m 30 #[.val (.int p1)] [])) _
          refine XS.iloadN X0.here hx rfl (hb hby d3_30) rfl ?_
          show Steps p.tables e below (s₁.setTop (mkF m 31 #[.val (.int p1)] [(.int p1)])) _
          refine XS.bipush X0.here hx rfl (hb hby d3_31) ?_
          exact kt
        by_cases hc33 : (57 : Int32) < p1
        · have pre17 : ∀ t, Steps p.tables e below (s₁.setTop (mkF m 36 #[.val (.int p1)] [])) t → Steps p.tables e below (s₁.setTop (entryFrame m #[(.int p1)] 1)) t := by
            intro t kt
            refine pre16 t ?_
            show Steps p.tables e below (s₁.setTop (mkF m 33 #[.val (.int p1)] [(.int (57 : Int32)), (.int p1)])) _
            refine XS.icmpNo X0.here hx rfl (hb hby d3_33) rfl (tlt hc33).2.2.2 ?_
            exact kt
          obtain ⟨a18, T18, h18, k18, b18, kb18, X18, e18, E18, hS18, hk18, hZ, hown, A18, C18, F18, V18, la18, lb18, CQ18, Li18, sf18, st18⟩ := ldcCH (s := s) (vm0 := s.vm) (text := own_t14) X0 hx hZ hown (hw _ (List.mem_of_getElem? (i := 14) rfl)) wS e0 hS0 (Nat.zero_le _) hEL own_mem14 CR0.1 (vs := (own_cs14.map fun c => c.toInt8.toInt32).map Value.int) (z := (15 : Int32)) own_ht14 (by decide) (by decide +kernel) (g := (mkF m 36 #[.val (.int p1)] [])) rfl (hb hby d3_36) (n := 60) (by decide +kernel) (by decide) (by decide) (by decide)
          have K18 : Keep h0 h18 [] := (Keep.refl h0 []).ext E18
          have Z18 : n0 ≤ h18.size := Nat.le_trans Z0 E18.1
          have mo18_0 := Nat.le_trans (Nat.zero_le _) E18.1
          have ST_COMPACT_STRINGS_19 := ST_COMPACT_STRINGS.ext E18
          have CR18 := CR0.trans CQ18
          have pre18 : ∀ t, Steps p.tables e below (T18.setTop (mkF m 38 #[.val (.int p1)] [(.ref a18)])) t → Steps p.tables e below (s₁.setTop (entryFrame m #[(.int p1)] 1)) t := fun t kt => pre17 t (st18 _ kt)
          have pre20 : ∀ t, Steps p.tables e below (T18.setTop (mkF m 39 #[.val (.int p1)] [(.int p1), (.ref a18)])) t → Steps p.tables e below (s₁.setTop (entryFrame m #[(.int p1)] 1)) t := by
            intro t kt
            refine pre18 t ?_
            show Steps p.tables e below (T18.setTop (mkF m 38 #[.val (.int p1)] [(.ref a18)])) _
            refine XS.iloadN X18.here hx rfl (hb hby d3_38) rfl ?_
            exact kt
          obtain ⟨cq21, kq21, q21a, q21b, q21c⟩ := isOf hZ e18 A18
          obtain ⟨_, _, ⟨T21, L21, k21, n21⟩, -, X21, ⟨Lc21, hQ21, l21, y21, z21⟩, st21⟩ := X18.virtualBack hx (y := (⟨"java/lang/String", "indexOf", "(I)I"⟩ : MethodName)) (z := (⟨"java/lang/String", "indexOf", "(I)I"⟩ : MethodName)) hown (mvT hZ (hw _ (List.mem_of_getElem? (i := 22) rfl))) (mvT hZ (hw _ (List.mem_of_getElem? (i := 23) rfl))) (notFace_of_selects (args := #[]) (mvT hZ (hw _ (List.mem_of_getElem? (i := 25) rfl)))) (mvT hZ (hw _ (List.mem_of_getElem? (i := 25) rfl))) (mvT hZ (hw _ (List.mem_of_getElem? (i := 24) rfl))) (by decide) (backOf (W := 0) (rm4 l Z a0 hw [] a18 p1 b18 kb18 own_cs14 (15 : Int32) cz h18 n0 Z18 A18 F18 C18 V18 ST_COMPACT_STRINGS_19 (hCS) (own_hl14) (own_hc14)) hZ (hw _ (List.mem_of_getElem? (i := 26) rfl)) (hw _ (List.mem_of_getElem? (i := 15) rfl)) (by decide) (by decide)) q21a q21c (g := (mkF m 39 #[.val (.int p1)] [(.int p1), (.ref a18)])) rfl (by rw [hml]; rfl) (Steps.refl _) (argsL := [(.int p1)]) (rest := []) (lenOf pd_6 rfl) rfl (by show 2 * 0 + _ ≤ _; exact Nat.le_of_eq rfl) (hb hby d3_39) (fun _ _ => ⟨rfl, e18, (by decide : 2 + 0 ≤ _), (by decide : 64 + 0 ≤ _)⟩)
          dsimp only [Pt.U, Pt.locs, Pt.cells, Pt.slots] at X21 l21 y21 z21 st21 hQ21
          subst l21 y21 z21
          obtain ⟨rz_21, rfl, N21q, e21, R21_0⟩ := hQ21
          have N21 := Fr.app N0 N21q
          have pre21 : ∀ t, Steps p.tables e below (T21.setTop (mkF m 42 #[.val (.int p1)] [(.int rz_21)])) t → Steps p.tables e below (s₁.setTop (entryFrame m #[(.int p1)] 1)) t := fun t kt => pre20 t (st21.trans kt)
          by_cases hc42 : rz_21 < (0 : Int32)
          · have pre22 : ∀ t, Steps p.tables e below (T21.setTop (mkF m 49 #[.val (.int p1)] [])) t → Steps p.tables e below (s₁.setTop (entryFrame m #[(.int p1)] 1)) t := by
              intro t kt
              refine pre21 t ?_
              show Steps p.tables e below (T21.setTop (mkF m 42 #[.val (.int p1)] [(.int rz_21)])) _
              refine XS.ifYes X21.here hx rfl (pc0 := 42) (pc' := 49) rfl (hb hby d3_42) rfl ((if0 _ _).trans (tlt hc42).1) (by decide) (by decide) ?_
              exact kt
            have pre23 : ∀ t, Steps p.tables e below (T21.setTop (mkF m 50 #[.val (.int p1)] [(.int (0 : Int32))])) t → Steps p.tables e below (s₁.setTop (entryFrame m #[(.int p1)] 1)) t := by
              intro t kt
              refine pre22 t ?_
              show Steps p.tables e below (T21.setTop (mkF m 49 #[.val (.int p1)] [])) _
              refine XS.iconst X21.here hx rfl (hb hby d3_49) ?_
              exact kt
            obtain ⟨fs, hr, hrun, hended, hEnd⟩ := X21.leaveW (s := s) (vm₁ := T18.vm) hS18 (by rw [e21]; exact hk18) (v := some (.int (0 : Int32))) (fun h => by rw [Bd.returns] at h; cases h)
            refine ⟨_, _, pre23 _ ?_, hrun, hended, _, _, rfl, ?_, (by rw [hh]; exact CR18.trans (by rw [show (T21.setFrames fs).heap = h18 from e21]; exact (show CHr Z EL T18.vm h18 T21.vm h18 from CHv.at (s := s) (vm0 := T18.vm) X21 hZ hEL CR18.1))), hEnd.1, hEnd.2.1, hEnd.2.2.1, hEnd.2.2.2.mono (by decide) (by decide)⟩
            · show Steps p.tables e below (T21.setTop (mkF m 50 #[.val (.int p1)] [(.int (0 : Int32))])) _
              exact retN X21 hx (t := .boolean) Bd.returns (by simp) (hb hby d3_50) hr
            · show Qrm3 Z p1 cz h0 n0 _ T21.heap _
              rw [e21]
              exact ⟨(0 : Int32), rfl, N21, K18, Or.inl rfl⟩
          · have pre24 : ∀ t, Steps p.tables e below (T21.setTop (mkF m 45 #[.val (.int p1)] [])) t → Steps p.tables e below (s₁.setTop (entryFrame m #[(.int p1)] 1)) t := by
              intro t kt
              refine pre21 t ?_
              show Steps p.tables e below (T21.setTop (mkF m 42 #[.val (.int p1)] [(.int rz_21)])) _
              refine XS.ifNo X21.here hx rfl (hb hby d3_42) rfl ((if0 _ _).trans (flt hc42).1) ?_
              exact kt
            have pre25 : ∀ t, Steps p.tables e below (T21.setTop (mkF m 50 #[.val (.int p1)] [(.int (1 : Int32))])) t → Steps p.tables e below (s₁.setTop (entryFrame m #[(.int p1)] 1)) t := by
              intro t kt
              refine pre24 t ?_
              show Steps p.tables e below (T21.setTop (mkF m 45 #[.val (.int p1)] [])) _
              refine XS.iconst X21.here hx rfl (hb hby d3_45) ?_
              show Steps p.tables e below (T21.setTop (mkF m 46 #[.val (.int p1)] [(.int (1 : Int32))])) _
              refine XS.goto X21.here hx rfl (pc0 := 46) (pc' := 50) rfl (hb hby d3_46) (by decide) (by decide) ?_
              exact kt
            obtain ⟨fs, hr, hrun, hended, hEnd⟩ := X21.leaveW (s := s) (vm₁ := T18.vm) hS18 (by rw [e21]; exact hk18) (v := some (.int (1 : Int32))) (fun h => by rw [Bd.returns] at h; cases h)
            refine ⟨_, _, pre25 _ ?_, hrun, hended, _, _, rfl, ?_, (by rw [hh]; exact CR18.trans (by rw [show (T21.setFrames fs).heap = h18 from e21]; exact (show CHr Z EL T18.vm h18 T21.vm h18 from CHv.at (s := s) (vm0 := T18.vm) X21 hZ hEL CR18.1))), hEnd.1, hEnd.2.1, hEnd.2.2.1, hEnd.2.2.2.mono (by decide) (by decide)⟩
            · show Steps p.tables e below (T21.setTop (mkF m 50 #[.val (.int p1)] [(.int (1 : Int32))])) _
              exact retN X21 hx (t := .boolean) Bd.returns (by simp) (hb hby d3_50) hr
            · show Qrm3 Z p1 cz h0 n0 _ T21.heap _
              rw [e21]
              exact ⟨(1 : Int32), rfl, N21, K18, (own_tokS (R21_0.resolve_left hc42))⟩
        · have pre26 : ∀ t, Steps p.tables e below (s₁.setTop (mkF m 45 #[.val (.int p1)] [])) t → Steps p.tables e below (s₁.setTop (entryFrame m #[(.int p1)] 1)) t := by
            intro t kt
            refine pre16 t ?_
            show Steps p.tables e below (s₁.setTop (mkF m 33 #[.val (.int p1)] [(.int (57 : Int32)), (.int p1)])) _
            refine XS.icmpYes X0.here hx rfl (pc0 := 33) (pc' := 45) rfl (hb hby d3_33) rfl (flt hc33).2.2.2 (by decide) (by decide) ?_
            exact kt
          have pre27 : ∀ t, Steps p.tables e below (s₁.setTop (mkF m 50 #[.val (.int p1)] [(.int (1 : Int32))])) t → Steps p.tables e below (s₁.setTop (entryFrame m #[(.int p1)] 1)) t := by
            intro t kt
            refine pre26 t ?_
            show Steps p.tables e below (s₁.setTop (mkF m 45 #[.val (.int p1)] [])) _
            refine XS.iconst X0.here hx rfl (hb hby d3_45) ?_
            show Steps p.tables e below (s₁.setTop (mkF m 46 #[.val (.int p1)] [(.int (1 : Int32))])) _
            refine XS.goto X0.here hx rfl (pc0 := 46) (pc' := 50) rfl (hb hby d3_46) (by decide) (by decide) ?_
            exact kt
          obtain ⟨fs, hr, hrun, hended, hEnd⟩ := X0.leaveW (s := s) (vm₁ := s.vm) hS0 (by rw [e0]; exact (Nat.zero_le _)) (v := some (.int (1 : Int32))) (fun h => by rw [Bd.returns] at h; cases h)
          refine ⟨_, _, pre27 _ ?_, hrun, hended, _, _, rfl, ?_, (by rw [hh]; exact CR0.trans (by rw [show (s₁.setFrames fs).heap = h0 from e0]; exact (show CHr Z EL s.vm h0 s₁.vm h0 from CHv.at (s := s) (vm0 := s.vm) X0 hZ hEL CR0.1))), hEnd.1, hEnd.2.1, hEnd.2.2.1, hEnd.2.2.2.mono (by decide) (by decide)⟩
          · show Steps p.tables e below (s₁.setTop (mkF m 50 #[.val (.int p1)] [(.int (1 : Int32))])) _
            exact retN X0 hx (t := .boolean) Bd.returns (by simp) (hb hby d3_50) hr
          · show Qrm3 Z p1 cz h0 n0 _ s₁.heap _
            rw [e0]
            exact ⟨(1 : Int32), rfl, N0, (Keep.refl h0 []), (own_tokR hc27 hc33)⟩
    · have pre28 : ∀ t, Steps p.tables e below (s₁.setTop (mkF m 18 #[.val (.int p1)] [])) t → Steps p.tables e below (s₁.setTop (entryFrame m #[(.int p1)] 1)) t := by
        intro t kt
        refine pre3 t ?_
        show Steps p.tables e below (s₁.setTop (mkF m 15 #[.val (.int p1)] [(.int (65 : Int32)), (.int p1)])) _
        refine XS.icmpNo X0.here hx rfl (hb hby d3_15) rfl (flt hc15).1 ?_
        exact kt
      have pre29 : ∀ t, Steps p.tables e below (s₁.setTop (mkF m 21 #[.val (.int p1)] [(.int (90 : Int32)), (.int p1)])) t → Steps p.tables e below (s₁.setTop (entryFrame m #[(.int p1)] 1)) t := by
        intro t kt
        refine pre28 t ?_
        show Steps p.tables e below (s₁.setTop (mkF m 18 #[.val (.int p1)] [])) _
        refine XS.iloadN X0.here hx rfl (hb hby d3_18) rfl ?_
        show Steps p.tables e below (s₁.setTop (mkF m 19 #[.val (.int p1)] [(.int p1)])) _
        refine XS.bipush X0.here hx rfl (hb hby d3_19) ?_
        exact kt
      by_cases hc21 : (90 : Int32) < p1
      · have pre30 : ∀ t, Steps p.tables e below (s₁.setTop (mkF m 24 #[.val (.int p1)] [])) t → Steps p.tables e below (s₁.setTop (entryFrame m #[(.int p1)] 1)) t := by
          intro t kt
          refine pre29 t ?_
          show Steps p.tables e below (s₁.setTop (mkF m 21 #[.val (.int p1)] [(.int (90 : Int32)), (.int p1)])) _
          refine XS.icmpNo X0.here hx rfl (hb hby d3_21) rfl (tlt hc21).2.2.2 ?_
          exact kt
        have pre31 : ∀ t, Steps p.tables e below (s₁.setTop (mkF m 27 #[.val (.int p1)] [(.int (48 : Int32)), (.int p1)])) t → Steps p.tables e below (s₁.setTop (entryFrame m #[(.int p1)] 1)) t := by
          intro t kt
          refine pre30 t ?_
          show Steps p.tables e below (s₁.setTop (mkF m 24 #[.val (.int p1)] [])) _
          refine XS.iloadN X0.here hx rfl (hb hby d3_24) rfl ?_
          show Steps p.tables e below (s₁.setTop (mkF m 25 #[.val (.int p1)] [(.int p1)])) _
          refine XS.bipush X0.here hx rfl (hb hby d3_25) ?_
          exact kt
        by_cases hc27 : p1 < (48 : Int32)
        · have pre32 : ∀ t, Steps p.tables e below (s₁.setTop (mkF m 36 #[.val (.int p1)] [])) t → Steps p.tables e below (s₁.setTop (entryFrame m #[(.int p1)] 1)) t := by
            intro t kt
            refine pre31 t ?_
            show Steps p.tables e below (s₁.setTop (mkF m 27 #[.val (.int p1)] [(.int (48 : Int32)), (.int p1)])) _
            refine XS.icmpYes X0.here hx rfl (pc0 := 27) (pc' := 36) rfl (hb hby d3_27) rfl (tlt hc27).1 (by decide) (by decide) ?_
            exact kt
          obtain ⟨a33, T33, h33, k33, b33, kb33, X33, e33, E33, hS33, hk33, hZ, hown, A33, C33, F33, V33, la33, lb33, CQ33, Li33, sf33, st33⟩ := ldcCH (s := s) (vm0 := s.vm) (text := own_t14) X0 hx hZ hown (hw _ (List.mem_of_getElem? (i := 14) rfl)) wS e0 hS0 (Nat.zero_le _) hEL own_mem14 CR0.1 (vs := (own_cs14.map fun c => c.toInt8.toInt32).map Value.int) (z := (15 : Int32)) own_ht14 (by decide) (by decide +kernel) (g := (mkF m 36 #[.val (.int p1)] [])) rfl (hb hby d3_36) (n := 60) (by decide +kernel) (by decide) (by decide) (by decide)
          have K33 : Keep h0 h33 [] := (Keep.refl h0 []).ext E33
          have Z33 : n0 ≤ h33.size := Nat.le_trans Z0 E33.1
          have mo33_0 := Nat.le_trans (Nat.zero_le _) E33.1
          have ST_COMPACT_STRINGS_34 := ST_COMPACT_STRINGS.ext E33
          have CR33 := CR0.trans CQ33
          have pre33 : ∀ t, Steps p.tables e below (T33.setTop (mkF m 38 #[.val (.int p1)] [(.ref a33)])) t → Steps p.tables e below (s₁.setTop (entryFrame m #[(.int p1)] 1)) t := fun t kt => pre32 t (st33 _ kt)
          have pre35 : ∀ t, Steps p.tables e below (T33.setTop (mkF m 39 #[.val (.int p1)] [(.int p1), (.ref a33)])) t → Steps p.tables e below (s₁.setTop (entryFrame m #[(.int p1)] 1)) t := by
            intro t kt
            refine pre33 t ?_
            show Steps p.tables e below (T33.setTop (mkF m 38 #[.val (.int p1)] [(.ref a33)])) _
            refine XS.iloadN X33.here hx rfl (hb hby d3_38) rfl ?_
            exact kt
          obtain ⟨cq36, kq36, q36a, q36b, q36c⟩ := isOf hZ e33 A33
          obtain ⟨_, _, ⟨T36, L36, k36, n36⟩, -, X36, ⟨Lc36, hQ36, l36, y36, z36⟩, st36⟩ := X33.virtualBack hx (y := (⟨"java/lang/String", "indexOf", "(I)I"⟩ : MethodName)) (z := (⟨"java/lang/String", "indexOf", "(I)I"⟩ : MethodName)) hown (mvT hZ (hw _ (List.mem_of_getElem? (i := 22) rfl))) (mvT hZ (hw _ (List.mem_of_getElem? (i := 23) rfl))) (notFace_of_selects (args := #[]) (mvT hZ (hw _ (List.mem_of_getElem? (i := 25) rfl)))) (mvT hZ (hw _ (List.mem_of_getElem? (i := 25) rfl))) (mvT hZ (hw _ (List.mem_of_getElem? (i := 24) rfl))) (by decide) (backOf (W := 0) (rm4 l Z a0 hw [] a33 p1 b33 kb33 own_cs14 (15 : Int32) cz h33 n0 Z33 A33 F33 C33 V33 ST_COMPACT_STRINGS_34 (hCS) (own_hl14) (own_hc14)) hZ (hw _ (List.mem_of_getElem? (i := 26) rfl)) (hw _ (List.mem_of_getElem? (i := 15) rfl)) (by decide) (by decide)) q36a q36c (g := (mkF m 39 #[.val (.int p1)] [(.int p1), (.ref a33)])) rfl (by rw [hml]; rfl) (Steps.refl _) (argsL := [(.int p1)]) (rest := []) (lenOf pd_6 rfl) rfl (by show 2 * 0 + _ ≤ _; exact Nat.le_of_eq rfl) (hb hby d3_39) (fun _ _ => ⟨rfl, e33, (by decide : 2 + 0 ≤ _), (by decide : 64 + 0 ≤ _)⟩)
          dsimp only [Pt.U, Pt.locs, Pt.cells, Pt.slots] at X36 l36 y36 z36 st36 hQ36
          subst l36 y36 z36
          obtain ⟨rz_36, rfl, N36q, e36, R36_0⟩ := hQ36
          have N36 := Fr.app N0 N36q
          have pre36 : ∀ t, Steps p.tables e below (T36.setTop (mkF m 42 #[.val (.int p1)] [(.int rz_36)])) t → Steps p.tables e below (s₁.setTop (entryFrame m #[(.int p1)] 1)) t := fun t kt => pre35 t (st36.trans kt)
          by_cases hc42 : rz_36 < (0 : Int32)
          · have pre37 : ∀ t, Steps p.tables e below (T36.setTop (mkF m 49 #[.val (.int p1)] [])) t → Steps p.tables e below (s₁.setTop (entryFrame m #[(.int p1)] 1)) t := by
              intro t kt
              refine pre36 t ?_
              show Steps p.tables e below (T36.setTop (mkF m 42 #[.val (.int p1)] [(.int rz_36)])) _
              refine XS.ifYes X36.here hx rfl (pc0 := 42) (pc' := 49) rfl (hb hby d3_42) rfl ((if0 _ _).trans (tlt hc42).1) (by decide) (by decide) ?_
              exact kt
            have pre38 : ∀ t, Steps p.tables e below (T36.setTop (mkF m 50 #[.val (.int p1)] [(.int (0 : Int32))])) t → Steps p.tables e below (s₁.setTop (entryFrame m #[(.int p1)] 1)) t := by
              intro t kt
              refine pre37 t ?_
              show Steps p.tables e below (T36.setTop (mkF m 49 #[.val (.int p1)] [])) _
              refine XS.iconst X36.here hx rfl (hb hby d3_49) ?_
              exact kt
            obtain ⟨fs, hr, hrun, hended, hEnd⟩ := X36.leaveW (s := s) (vm₁ := T33.vm) hS33 (by rw [e36]; exact hk33) (v := some (.int (0 : Int32))) (fun h => by rw [Bd.returns] at h; cases h)
            refine ⟨_, _, pre38 _ ?_, hrun, hended, _, _, rfl, ?_, (by rw [hh]; exact CR33.trans (by rw [show (T36.setFrames fs).heap = h33 from e36]; exact (show CHr Z EL T33.vm h33 T36.vm h33 from CHv.at (s := s) (vm0 := T33.vm) X36 hZ hEL CR33.1))), hEnd.1, hEnd.2.1, hEnd.2.2.1, hEnd.2.2.2.mono (by decide) (by decide)⟩
            · show Steps p.tables e below (T36.setTop (mkF m 50 #[.val (.int p1)] [(.int (0 : Int32))])) _
              exact retN X36 hx (t := .boolean) Bd.returns (by simp) (hb hby d3_50) hr
            · show Qrm3 Z p1 cz h0 n0 _ T36.heap _
              rw [e36]
              exact ⟨(0 : Int32), rfl, N36, K33, Or.inl rfl⟩
          · have pre39 : ∀ t, Steps p.tables e below (T36.setTop (mkF m 45 #[.val (.int p1)] [])) t → Steps p.tables e below (s₁.setTop (entryFrame m #[(.int p1)] 1)) t := by
              intro t kt
              refine pre36 t ?_
              show Steps p.tables e below (T36.setTop (mkF m 42 #[.val (.int p1)] [(.int rz_36)])) _
              refine XS.ifNo X36.here hx rfl (hb hby d3_42) rfl ((if0 _ _).trans (flt hc42).1) ?_
              exact kt
            have pre40 : ∀ t, Steps p.tables e below (T36.setTop (mkF m 50 #[.val (.int p1)] [(.int (1 : Int32))])) t → Steps p.tables e below (s₁.setTop (entryFrame m #[(.int p1)] 1)) t := by
              intro t kt
              refine pre39 t ?_
              show Steps p.tables e below (T36.setTop (mkF m 45 #[.val (.int p1)] [])) _
              refine XS.iconst X36.here hx rfl (hb hby d3_45) ?_
              show Steps p.tables e below (T36.setTop (mkF m 46 #[.val (.int p1)] [(.int (1 : Int32))])) _
              refine XS.goto X36.here hx rfl (pc0 := 46) (pc' := 50) rfl (hb hby d3_46) (by decide) (by decide) ?_
              exact kt
            obtain ⟨fs, hr, hrun, hended, hEnd⟩ := X36.leaveW (s := s) (vm₁ := T33.vm) hS33 (by rw [e36]; exact hk33) (v := some (.int (1 : Int32))) (fun h => by rw [Bd.returns] at h; cases h)
            refine ⟨_, _, pre40 _ ?_, hrun, hended, _, _, rfl, ?_, (by rw [hh]; exact CR33.trans (by rw [show (T36.setFrames fs).heap = h33 from e36]; exact (show CHr Z EL T33.vm h33 T36.vm h33 from CHv.at (s := s) (vm0 := T33.vm) X36 hZ hEL CR33.1))), hEnd.1, hEnd.2.1, hEnd.2.2.1, hEnd.2.2.2.mono (by decide) (by decide)⟩
            · show Steps p.tables e below (T36.setTop (mkF m 50 #[.val (.int p1)] [(.int (1 : Int32))])) _
              exact retN X36 hx (t := .boolean) Bd.returns (by simp) (hb hby d3_50) hr
            · show Qrm3 Z p1 cz h0 n0 _ T36.heap _
              rw [e36]
              exact ⟨(1 : Int32), rfl, N36, K33, (own_tokS (R36_0.resolve_left hc42))⟩
        · have pre41 : ∀ t, Steps p.tables e below (s₁.setTop (mkF m 30 #[.val (.int p1)] [])) t → Steps p.tables e below (s₁.setTop (entryFrame m #[(.int p1)] 1)) t := by
            intro t kt
            refine pre31 t ?_
            show Steps p.tables e below (s₁.setTop (mkF m 27 #[.val (.int p1)] [(.int (48 : Int32)), (.int p1)])) _
            refine XS.icmpNo X0.here hx rfl (hb hby d3_27) rfl (flt hc27).1 ?_
            exact kt
          have pre42 : ∀ t, Steps p.tables e below (s₁.setTop (mkF m 33 #[.val (.int p1)] [(.int (57 : Int32)), (.int p1)])) t → Steps p.tables e below (s₁.setTop (entryFrame m #[(.int p1)] 1)) t := by
            intro t kt
            refine pre41 t ?_
            show Steps p.tables e below (s₁.setTop (mkF m 30 #[.val (.int p1)] [])) _
            refine XS.iloadN X0.here hx rfl (hb hby d3_30) rfl ?_
            show Steps p.tables e below (s₁.setTop (mkF m 31 #[.val (.int p1)] [(.int p1)])) _
            refine XS.bipush X0.here hx rfl (hb hby d3_31) ?_
            exact kt
          by_cases hc33 : (57 : Int32) < p1
          · have pre43 : ∀ t, Steps p.tables e below (s₁.setTop (mkF m 36 #[.val (.int p1)] [])) t → Steps p.tables e below (s₁.setTop (entryFrame m #[(.int p1)] 1)) t := by
              intro t kt
              refine pre42 t ?_
              show Steps p.tables e below (s₁.setTop (mkF m 33 #[.val (.int p1)] [(.int (57 : Int32)), (.int p1)])) _
              refine XS.icmpNo X0.here hx rfl (hb hby d3_33) rfl (tlt hc33).2.2.2 ?_
              exact kt
            obtain ⟨a44, T44, h44, k44, b44, kb44, X44, e44, E44, hS44, hk44, hZ, hown, A44, C44, F44, V44, la44, lb44, CQ44, Li44, sf44, st44⟩ := ldcCH (s := s) (vm0 := s.vm) (text := own_t14) X0 hx hZ hown (hw _ (List.mem_of_getElem? (i := 14) rfl)) wS e0 hS0 (Nat.zero_le _) hEL own_mem14 CR0.1 (vs := (own_cs14.map fun c => c.toInt8.toInt32).map Value.int) (z := (15 : Int32)) own_ht14 (by decide) (by decide +kernel) (g := (mkF m 36 #[.val (.int p1)] [])) rfl (hb hby d3_36) (n := 60) (by decide +kernel) (by decide) (by decide) (by decide)
            have K44 : Keep h0 h44 [] := (Keep.refl h0 []).ext E44
            have Z44 : n0 ≤ h44.size := Nat.le_trans Z0 E44.1
            have mo44_0 := Nat.le_trans (Nat.zero_le _) E44.1
            have ST_COMPACT_STRINGS_45 := ST_COMPACT_STRINGS.ext E44
            have CR44 := CR0.trans CQ44
            have pre44 : ∀ t, Steps p.tables e below (T44.setTop (mkF m 38 #[.val (.int p1)] [(.ref a44)])) t → Steps p.tables e below (s₁.setTop (entryFrame m #[(.int p1)] 1)) t := fun t kt => pre43 t (st44 _ kt)
            have pre46 : ∀ t, Steps p.tables e below (T44.setTop (mkF m 39 #[.val (.int p1)] [(.int p1), (.ref a44)])) t → Steps p.tables e below (s₁.setTop (entryFrame m #[(.int p1)] 1)) t := by
              intro t kt
              refine pre44 t ?_
              show Steps p.tables e below (T44.setTop (mkF m 38 #[.val (.int p1)] [(.ref a44)])) _
              refine XS.iloadN X44.here hx rfl (hb hby d3_38) rfl ?_
              exact kt
            obtain ⟨cq47, kq47, q47a, q47b, q47c⟩ := isOf hZ e44 A44
            obtain ⟨_, _, ⟨T47, L47, k47, n47⟩, -, X47, ⟨Lc47, hQ47, l47, y47, z47⟩, st47⟩ := X44.virtualBack hx (y := (⟨"java/lang/String", "indexOf", "(I)I"⟩ : MethodName)) (z := (⟨"java/lang/String", "indexOf", "(I)I"⟩ : MethodName)) hown (mvT hZ (hw _ (List.mem_of_getElem? (i := 22) rfl))) (mvT hZ (hw _ (List.mem_of_getElem? (i := 23) rfl))) (notFace_of_selects (args := #[]) (mvT hZ (hw _ (List.mem_of_getElem? (i := 25) rfl)))) (mvT hZ (hw _ (List.mem_of_getElem? (i := 25) rfl))) (mvT hZ (hw _ (List.mem_of_getElem? (i := 24) rfl))) (by decide) (backOf (W := 0) (rm4 l Z a0 hw [] a44 p1 b44 kb44 own_cs14 (15 : Int32) cz h44 n0 Z44 A44 F44 C44 V44 ST_COMPACT_STRINGS_45 (hCS) (own_hl14) (own_hc14)) hZ (hw _ (List.mem_of_getElem? (i := 26) rfl)) (hw _ (List.mem_of_getElem? (i := 15) rfl)) (by decide) (by decide)) q47a q47c (g := (mkF m 39 #[.val (.int p1)] [(.int p1), (.ref a44)])) rfl (by rw [hml]; rfl) (Steps.refl _) (argsL := [(.int p1)]) (rest := []) (lenOf pd_6 rfl) rfl (by show 2 * 0 + _ ≤ _; exact Nat.le_of_eq rfl) (hb hby d3_39) (fun _ _ => ⟨rfl, e44, (by decide : 2 + 0 ≤ _), (by decide : 64 + 0 ≤ _)⟩)
            dsimp only [Pt.U, Pt.locs, Pt.cells, Pt.slots] at X47 l47 y47 z47 st47 hQ47
            subst l47 y47 z47
            obtain ⟨rz_47, rfl, N47q, e47, R47_0⟩ := hQ47
            have N47 := Fr.app N0 N47q
            have pre47 : ∀ t, Steps p.tables e below (T47.setTop (mkF m 42 #[.val (.int p1)] [(.int rz_47)])) t → Steps p.tables e below (s₁.setTop (entryFrame m #[(.int p1)] 1)) t := fun t kt => pre46 t (st47.trans kt)
            by_cases hc42 : rz_47 < (0 : Int32)
            · have pre48 : ∀ t, Steps p.tables e below (T47.setTop (mkF m 49 #[.val (.int p1)] [])) t → Steps p.tables e below (s₁.setTop (entryFrame m #[(.int p1)] 1)) t := by
                intro t kt
                refine pre47 t ?_
                show Steps p.tables e below (T47.setTop (mkF m 42 #[.val (.int p1)] [(.int rz_47)])) _
                refine XS.ifYes X47.here hx rfl (pc0 := 42) (pc' := 49) rfl (hb hby d3_42) rfl ((if0 _ _).trans (tlt hc42).1) (by decide) (by decide) ?_
                exact kt
              have pre49 : ∀ t, Steps p.tables e below (T47.setTop (mkF m 50 #[.val (.int p1)] [(.int (0 : Int32))])) t → Steps p.tables e below (s₁.setTop (entryFrame m #[(.int p1)] 1)) t := by
                intro t kt
                refine pre48 t ?_
                show Steps p.tables e below (T47.setTop (mkF m 49 #[.val (.int p1)] [])) _
                refine XS.iconst X47.here hx rfl (hb hby d3_49) ?_
                exact kt
              obtain ⟨fs, hr, hrun, hended, hEnd⟩ := X47.leaveW (s := s) (vm₁ := T44.vm) hS44 (by rw [e47]; exact hk44) (v := some (.int (0 : Int32))) (fun h => by rw [Bd.returns] at h; cases h)
              refine ⟨_, _, pre49 _ ?_, hrun, hended, _, _, rfl, ?_, (by rw [hh]; exact CR44.trans (by rw [show (T47.setFrames fs).heap = h44 from e47]; exact (show CHr Z EL T44.vm h44 T47.vm h44 from CHv.at (s := s) (vm0 := T44.vm) X47 hZ hEL CR44.1))), hEnd.1, hEnd.2.1, hEnd.2.2.1, hEnd.2.2.2.mono (by decide) (by decide)⟩
              · show Steps p.tables e below (T47.setTop (mkF m 50 #[.val (.int p1)] [(.int (0 : Int32))])) _
                exact retN X47 hx (t := .boolean) Bd.returns (by simp) (hb hby d3_50) hr
              · show Qrm3 Z p1 cz h0 n0 _ T47.heap _
                rw [e47]
                exact ⟨(0 : Int32), rfl, N47, K44, Or.inl rfl⟩
            · have pre50 : ∀ t, Steps p.tables e below (T47.setTop (mkF m 45 #[.val (.int p1)] [])) t → Steps p.tables e below (s₁.setTop (entryFrame m #[(.int p1)] 1)) t := by
                intro t kt
                refine pre47 t ?_
                show Steps p.tables e below (T47.setTop (mkF m 42 #[.val (.int p1)] [(.int rz_47)])) _
                refine XS.ifNo X47.here hx rfl (hb hby d3_42) rfl ((if0 _ _).trans (flt hc42).1) ?_
                exact kt
              have pre51 : ∀ t, Steps p.tables e below (T47.setTop (mkF m 50 #[.val (.int p1)] [(.int (1 : Int32))])) t → Steps p.tables e below (s₁.setTop (entryFrame m #[(.int p1)] 1)) t := by
                intro t kt
                refine pre50 t ?_
                show Steps p.tables e below (T47.setTop (mkF m 45 #[.val (.int p1)] [])) _
                refine XS.iconst X47.here hx rfl (hb hby d3_45) ?_
                show Steps p.tables e below (T47.setTop (mkF m 46 #[.val (.int p1)] [(.int (1 : Int32))])) _
                refine XS.goto X47.here hx rfl (pc0 := 46) (pc' := 50) rfl (hb hby d3_46) (by decide) (by decide) ?_
                exact kt
              obtain ⟨fs, hr, hrun, hended, hEnd⟩ := X47.leaveW (s := s) (vm₁ := T44.vm) hS44 (by rw [e47]; exact hk44) (v := some (.int (1 : Int32))) (fun h => by rw [Bd.returns] at h; cases h)
              refine ⟨_, _, pre51 _ ?_, hrun, hended, _, _, rfl, ?_, (by rw [hh]; exact CR44.trans (by rw [show (T47.setFrames fs).heap = h44 from e47]; exact (show CHr Z EL T44.vm h44 T47.vm h44 from CHv.at (s := s) (vm0 := T44.vm) X47 hZ hEL CR44.1))), hEnd.1, hEnd.2.1, hEnd.2.2.1, hEnd.2.2.2.mono (by decide) (by decide)⟩
              · show Steps p.tables e below (T47.setTop (mkF m 50 #[.val (.int p1)] [(.int (1 : Int32))])) _
                exact retN X47 hx (t := .boolean) Bd.returns (by simp) (hb hby d3_50) hr
              · show Qrm3 Z p1 cz h0 n0 _ T47.heap _
                rw [e47]
                exact ⟨(1 : Int32), rfl, N47, K44, (own_tokS (R47_0.resolve_left hc42))⟩
          · have pre52 : ∀ t, Steps p.tables e below (s₁.setTop (mkF m 45 #[.val (.int p1)] [])) t → Steps p.tables e below (s₁.setTop (entryFrame m #[(.int p1)] 1)) t := by
              intro t kt
              refine pre42 t ?_
              show Steps p.tables e below (s₁.setTop (mkF m 33 #[.val (.int p1)] [(.int (57 : Int32)), (.int p1)])) _
              refine XS.icmpYes X0.here hx rfl (pc0 := 33) (pc' := 45) rfl (hb hby d3_33) rfl (flt hc33).2.2.2 (by decide) (by decide) ?_
              exact kt
            have pre53 : ∀ t, Steps p.tables e below (s₁.setTop (mkF m 50 #[.val (.int p1)] [(.int (1 : Int32))])) t → Steps p.tables e below (s₁.setTop (entryFrame m #[(.int p1)] 1)) t := by
              intro t kt
              refine pre52 t ?_
              show Steps p.tables e below (s₁.setTop (mkF m 45 #[.val (.int p1)] [])) _
              refine XS.iconst X0.here hx rfl (hb hby d3_45) ?_
              show Steps p.tables e below (s₁.setTop (mkF m 46 #[.val (.int p1)] [(.int (1 : Int32))])) _
              refine XS.goto X0.here hx rfl (pc0 := 46) (pc' := 50) rfl (hb hby d3_46) (by decide) (by decide) ?_
              exact kt
            obtain ⟨fs, hr, hrun, hended, hEnd⟩ := X0.leaveW (s := s) (vm₁ := s.vm) hS0 (by rw [e0]; exact (Nat.zero_le _)) (v := some (.int (1 : Int32))) (fun h => by rw [Bd.returns] at h; cases h)
            refine ⟨_, _, pre53 _ ?_, hrun, hended, _, _, rfl, ?_, (by rw [hh]; exact CR0.trans (by rw [show (s₁.setFrames fs).heap = h0 from e0]; exact (show CHr Z EL s.vm h0 s₁.vm h0 from CHv.at (s := s) (vm0 := s.vm) X0 hZ hEL CR0.1))), hEnd.1, hEnd.2.1, hEnd.2.2.1, hEnd.2.2.2.mono (by decide) (by decide)⟩
            · show Steps p.tables e below (s₁.setTop (mkF m 50 #[.val (.int p1)] [(.int (1 : Int32))])) _
              exact retN X0 hx (t := .boolean) Bd.returns (by simp) (hb hby d3_50) hr
            · show Qrm3 Z p1 cz h0 n0 _ s₁.heap _
              rw [e0]
              exact ⟨(1 : Int32), rfl, N0, (Keep.refl h0 []), (own_tokR hc27 hc33)⟩
      · have pre54 : ∀ t, Steps p.tables e below (s₁.setTop (mkF m 45 #[.val (.int p1)] [])) t → Steps p.tables e below (s₁.setTop (entryFrame m #[(.int p1)] 1)) t := by
          intro t kt
          refine pre29 t ?_
          show Steps p.tables e below (s₁.setTop (mkF m 21 #[.val (.int p1)] [(.int (90 : Int32)), (.int p1)])) _
          refine XS.icmpYes X0.here hx rfl (pc0 := 21) (pc' := 45) rfl (hb hby d3_21) rfl (flt hc21).2.2.2 (by decide) (by decide) ?_
          exact kt
        have pre55 : ∀ t, Steps p.tables e below (s₁.setTop (mkF m 50 #[.val (.int p1)] [(.int (1 : Int32))])) t → Steps p.tables e below (s₁.setTop (entryFrame m #[(.int p1)] 1)) t := by
          intro t kt
          refine pre54 t ?_
          show Steps p.tables e below (s₁.setTop (mkF m 45 #[.val (.int p1)] [])) _
          refine XS.iconst X0.here hx rfl (hb hby d3_45) ?_
          show Steps p.tables e below (s₁.setTop (mkF m 46 #[.val (.int p1)] [(.int (1 : Int32))])) _
          refine XS.goto X0.here hx rfl (pc0 := 46) (pc' := 50) rfl (hb hby d3_46) (by decide) (by decide) ?_
          exact kt
        obtain ⟨fs, hr, hrun, hended, hEnd⟩ := X0.leaveW (s := s) (vm₁ := s.vm) hS0 (by rw [e0]; exact (Nat.zero_le _)) (v := some (.int (1 : Int32))) (fun h => by rw [Bd.returns] at h; cases h)
        refine ⟨_, _, pre55 _ ?_, hrun, hended, _, _, rfl, ?_, (by rw [hh]; exact CR0.trans (by rw [show (s₁.setFrames fs).heap = h0 from e0]; exact (show CHr Z EL s.vm h0 s₁.vm h0 from CHv.at (s := s) (vm0 := s.vm) X0 hZ hEL CR0.1))), hEnd.1, hEnd.2.1, hEnd.2.2.1, hEnd.2.2.2.mono (by decide) (by decide)⟩
        · show Steps p.tables e below (s₁.setTop (mkF m 50 #[.val (.int p1)] [(.int (1 : Int32))])) _
          exact retN X0 hx (t := .boolean) Bd.returns (by simp) (hb hby d3_50) hr
        · show Qrm3 Z p1 cz h0 n0 _ s₁.heap _
          rw [e0]
          exact ⟨(1 : Int32), rfl, N0, (Keep.refl h0 []), (own_tokR hc15 hc21)⟩
  · have pre56 : ∀ t, Steps p.tables e below (s₁.setTop (mkF m 6 #[.val (.int p1)] [])) t → Steps p.tables e below (s₁.setTop (entryFrame m #[(.int p1)] 1)) t := by
      intro t kt
      refine pre1 t ?_
      show Steps p.tables e below (s₁.setTop (mkF m 3 #[.val (.int p1)] [(.int (97 : Int32)), (.int p1)])) _
      refine XS.icmpNo X0.here hx rfl (hb hby d3_3) rfl (flt hc3).1 ?_
      exact kt
    have pre57 : ∀ t, Steps p.tables e below (s₁.setTop (mkF m 9 #[.val (.int p1)] [(.int (122 : Int32)), (.int p1)])) t → Steps p.tables e below (s₁.setTop (entryFrame m #[(.int p1)] 1)) t := by
      intro t kt
      refine pre56 t ?_
      show Steps p.tables e below (s₁.setTop (mkF m 6 #[.val (.int p1)] [])) _
      refine XS.iloadN X0.here hx rfl (hb hby d3_6) rfl ?_
      show Steps p.tables e below (s₁.setTop (mkF m 7 #[.val (.int p1)] [(.int p1)])) _
      refine XS.bipush X0.here hx rfl (hb hby d3_7) ?_
      exact kt
    by_cases hc9 : (122 : Int32) < p1
    · have pre58 : ∀ t, Steps p.tables e below (s₁.setTop (mkF m 12 #[.val (.int p1)] [])) t → Steps p.tables e below (s₁.setTop (entryFrame m #[(.int p1)] 1)) t := by
        intro t kt
        refine pre57 t ?_
        show Steps p.tables e below (s₁.setTop (mkF m 9 #[.val (.int p1)] [(.int (122 : Int32)), (.int p1)])) _
        refine XS.icmpNo X0.here hx rfl (hb hby d3_9) rfl (tlt hc9).2.2.2 ?_
        exact kt
      have pre59 : ∀ t, Steps p.tables e below (s₁.setTop (mkF m 15 #[.val (.int p1)] [(.int (65 : Int32)), (.int p1)])) t → Steps p.tables e below (s₁.setTop (entryFrame m #[(.int p1)] 1)) t := by
        intro t kt
        refine pre58 t ?_
        show Steps p.tables e below (s₁.setTop (mkF m 12 #[.val (.int p1)] [])) _
        refine XS.iloadN X0.here hx rfl (hb hby d3_12) rfl ?_
        show Steps p.tables e below (s₁.setTop (mkF m 13 #[.val (.int p1)] [(.int p1)])) _
        refine XS.bipush X0.here hx rfl (hb hby d3_13) ?_
        exact kt
      by_cases hc15 : p1 < (65 : Int32)
      · have pre60 : ∀ t, Steps p.tables e below (s₁.setTop (mkF m 24 #[.val (.int p1)] [])) t → Steps p.tables e below (s₁.setTop (entryFrame m #[(.int p1)] 1)) t := by
          intro t kt
          refine pre59 t ?_
          show Steps p.tables e below (s₁.setTop (mkF m 15 #[.val (.int p1)] [(.int (65 : Int32)), (.int p1)])) _
          refine XS.icmpYes X0.here hx rfl (pc0 := 15) (pc' := 24) rfl (hb hby d3_15) rfl (tlt hc15).1 (by decide) (by decide) ?_
          exact kt
        have pre61 : ∀ t, Steps p.tables e below (s₁.setTop (mkF m 27 #[.val (.int p1)] [(.int (48 : Int32)), (.int p1)])) t → Steps p.tables e below (s₁.setTop (entryFrame m #[(.int p1)] 1)) t := by
          intro t kt
          refine pre60 t ?_
          show Steps p.tables e below (s₁.setTop (mkF m 24 #[.val (.int p1)] [])) _
          refine XS.iloadN X0.here hx rfl (hb hby d3_24) rfl ?_
          show Steps p.tables e below (s₁.setTop (mkF m 25 #[.val (.int p1)] [(.int p1)])) _
          refine XS.bipush X0.here hx rfl (hb hby d3_25) ?_
          exact kt
        by_cases hc27 : p1 < (48 : Int32)
        · have pre62 : ∀ t, Steps p.tables e below (s₁.setTop (mkF m 36 #[.val (.int p1)] [])) t → Steps p.tables e below (s₁.setTop (entryFrame m #[(.int p1)] 1)) t := by
            intro t kt
            refine pre61 t ?_
            show Steps p.tables e below (s₁.setTop (mkF m 27 #[.val (.int p1)] [(.int (48 : Int32)), (.int p1)])) _
            refine XS.icmpYes X0.here hx rfl (pc0 := 27) (pc' := 36) rfl (hb hby d3_27) rfl (tlt hc27).1 (by decide) (by decide) ?_
            exact kt
          obtain ⟨a63, T63, h63, k63, b63, kb63, X63, e63, E63, hS63, hk63, hZ, hown, A63, C63, F63, V63, la63, lb63, CQ63, Li63, sf63, st63⟩ := ldcCH (s := s) (vm0 := s.vm) (text := own_t14) X0 hx hZ hown (hw _ (List.mem_of_getElem? (i := 14) rfl)) wS e0 hS0 (Nat.zero_le _) hEL own_mem14 CR0.1 (vs := (own_cs14.map fun c => c.toInt8.toInt32).map Value.int) (z := (15 : Int32)) own_ht14 (by decide) (by decide +kernel) (g := (mkF m 36 #[.val (.int p1)] [])) rfl (hb hby d3_36) (n := 60) (by decide +kernel) (by decide) (by decide) (by decide)
          have K63 : Keep h0 h63 [] := (Keep.refl h0 []).ext E63
          have Z63 : n0 ≤ h63.size := Nat.le_trans Z0 E63.1
          have mo63_0 := Nat.le_trans (Nat.zero_le _) E63.1
          have ST_COMPACT_STRINGS_64 := ST_COMPACT_STRINGS.ext E63
          have CR63 := CR0.trans CQ63
          have pre63 : ∀ t, Steps p.tables e below (T63.setTop (mkF m 38 #[.val (.int p1)] [(.ref a63)])) t → Steps p.tables e below (s₁.setTop (entryFrame m #[(.int p1)] 1)) t := fun t kt => pre62 t (st63 _ kt)
          have pre65 : ∀ t, Steps p.tables e below (T63.setTop (mkF m 39 #[.val (.int p1)] [(.int p1), (.ref a63)])) t → Steps p.tables e below (s₁.setTop (entryFrame m #[(.int p1)] 1)) t := by
            intro t kt
            refine pre63 t ?_
            show Steps p.tables e below (T63.setTop (mkF m 38 #[.val (.int p1)] [(.ref a63)])) _
            refine XS.iloadN X63.here hx rfl (hb hby d3_38) rfl ?_
            exact kt
          obtain ⟨cq66, kq66, q66a, q66b, q66c⟩ := isOf hZ e63 A63
          obtain ⟨_, _, ⟨T66, L66, k66, n66⟩, -, X66, ⟨Lc66, hQ66, l66, y66, z66⟩, st66⟩ := X63.virtualBack hx (y := (⟨"java/lang/String", "indexOf", "(I)I"⟩ : MethodName)) (z := (⟨"java/lang/String", "indexOf", "(I)I"⟩ : MethodName)) hown (mvT hZ (hw _ (List.mem_of_getElem? (i := 22) rfl))) (mvT hZ (hw _ (List.mem_of_getElem? (i := 23) rfl))) (notFace_of_selects (args := #[]) (mvT hZ (hw _ (List.mem_of_getElem? (i := 25) rfl)))) (mvT hZ (hw _ (List.mem_of_getElem? (i := 25) rfl))) (mvT hZ (hw _ (List.mem_of_getElem? (i := 24) rfl))) (by decide) (backOf (W := 0) (rm4 l Z a0 hw [] a63 p1 b63 kb63 own_cs14 (15 : Int32) cz h63 n0 Z63 A63 F63 C63 V63 ST_COMPACT_STRINGS_64 (hCS) (own_hl14) (own_hc14)) hZ (hw _ (List.mem_of_getElem? (i := 26) rfl)) (hw _ (List.mem_of_getElem? (i := 15) rfl)) (by decide) (by decide)) q66a q66c (g := (mkF m 39 #[.val (.int p1)] [(.int p1), (.ref a63)])) rfl (by rw [hml]; rfl) (Steps.refl _) (argsL := [(.int p1)]) (rest := []) (lenOf pd_6 rfl) rfl (by show 2 * 0 + _ ≤ _; exact Nat.le_of_eq rfl) (hb hby d3_39) (fun _ _ => ⟨rfl, e63, (by decide : 2 + 0 ≤ _), (by decide : 64 + 0 ≤ _)⟩)
          dsimp only [Pt.U, Pt.locs, Pt.cells, Pt.slots] at X66 l66 y66 z66 st66 hQ66
          subst l66 y66 z66
          obtain ⟨rz_66, rfl, N66q, e66, R66_0⟩ := hQ66
          have N66 := Fr.app N0 N66q
          have pre66 : ∀ t, Steps p.tables e below (T66.setTop (mkF m 42 #[.val (.int p1)] [(.int rz_66)])) t → Steps p.tables e below (s₁.setTop (entryFrame m #[(.int p1)] 1)) t := fun t kt => pre65 t (st66.trans kt)
          by_cases hc42 : rz_66 < (0 : Int32)
          · have pre67 : ∀ t, Steps p.tables e below (T66.setTop (mkF m 49 #[.val (.int p1)] [])) t → Steps p.tables e below (s₁.setTop (entryFrame m #[(.int p1)] 1)) t := by
              intro t kt
              refine pre66 t ?_
              show Steps p.tables e below (T66.setTop (mkF m 42 #[.val (.int p1)] [(.int rz_66)])) _
              refine XS.ifYes X66.here hx rfl (pc0 := 42) (pc' := 49) rfl (hb hby d3_42) rfl ((if0 _ _).trans (tlt hc42).1) (by decide) (by decide) ?_
              exact kt
            have pre68 : ∀ t, Steps p.tables e below (T66.setTop (mkF m 50 #[.val (.int p1)] [(.int (0 : Int32))])) t → Steps p.tables e below (s₁.setTop (entryFrame m #[(.int p1)] 1)) t := by
              intro t kt
              refine pre67 t ?_
              show Steps p.tables e below (T66.setTop (mkF m 49 #[.val (.int p1)] [])) _
              refine XS.iconst X66.here hx rfl (hb hby d3_49) ?_
              exact kt
            obtain ⟨fs, hr, hrun, hended, hEnd⟩ := X66.leaveW (s := s) (vm₁ := T63.vm) hS63 (by rw [e66]; exact hk63) (v := some (.int (0 : Int32))) (fun h => by rw [Bd.returns] at h; cases h)
            refine ⟨_, _, pre68 _ ?_, hrun, hended, _, _, rfl, ?_, (by rw [hh]; exact CR63.trans (by rw [show (T66.setFrames fs).heap = h63 from e66]; exact (show CHr Z EL T63.vm h63 T66.vm h63 from CHv.at (s := s) (vm0 := T63.vm) X66 hZ hEL CR63.1))), hEnd.1, hEnd.2.1, hEnd.2.2.1, hEnd.2.2.2.mono (by decide) (by decide)⟩
            · show Steps p.tables e below (T66.setTop (mkF m 50 #[.val (.int p1)] [(.int (0 : Int32))])) _
              exact retN X66 hx (t := .boolean) Bd.returns (by simp) (hb hby d3_50) hr
            · show Qrm3 Z p1 cz h0 n0 _ T66.heap _
              rw [e66]
              exact ⟨(0 : Int32), rfl, N66, K63, Or.inl rfl⟩
          · have pre69 : ∀ t, Steps p.tables e below (T66.setTop (mkF m 45 #[.val (.int p1)] [])) t → Steps p.tables e below (s₁.setTop (entryFrame m #[(.int p1)] 1)) t := by
              intro t kt
              refine pre66 t ?_
              show Steps p.tables e below (T66.setTop (mkF m 42 #[.val (.int p1)] [(.int rz_66)])) _
              refine XS.ifNo X66.here hx rfl (hb hby d3_42) rfl ((if0 _ _).trans (flt hc42).1) ?_
              exact kt
            have pre70 : ∀ t, Steps p.tables e below (T66.setTop (mkF m 50 #[.val (.int p1)] [(.int (1 : Int32))])) t → Steps p.tables e below (s₁.setTop (entryFrame m #[(.int p1)] 1)) t := by
              intro t kt
              refine pre69 t ?_
              show Steps p.tables e below (T66.setTop (mkF m 45 #[.val (.int p1)] [])) _
              refine XS.iconst X66.here hx rfl (hb hby d3_45) ?_
              show Steps p.tables e below (T66.setTop (mkF m 46 #[.val (.int p1)] [(.int (1 : Int32))])) _
              refine XS.goto X66.here hx rfl (pc0 := 46) (pc' := 50) rfl (hb hby d3_46) (by decide) (by decide) ?_
              exact kt
            obtain ⟨fs, hr, hrun, hended, hEnd⟩ := X66.leaveW (s := s) (vm₁ := T63.vm) hS63 (by rw [e66]; exact hk63) (v := some (.int (1 : Int32))) (fun h => by rw [Bd.returns] at h; cases h)
            refine ⟨_, _, pre70 _ ?_, hrun, hended, _, _, rfl, ?_, (by rw [hh]; exact CR63.trans (by rw [show (T66.setFrames fs).heap = h63 from e66]; exact (show CHr Z EL T63.vm h63 T66.vm h63 from CHv.at (s := s) (vm0 := T63.vm) X66 hZ hEL CR63.1))), hEnd.1, hEnd.2.1, hEnd.2.2.1, hEnd.2.2.2.mono (by decide) (by decide)⟩
            · show Steps p.tables e below (T66.setTop (mkF m 50 #[.val (.int p1)] [(.int (1 : Int32))])) _
              exact retN X66 hx (t := .boolean) Bd.returns (by simp) (hb hby d3_50) hr
            · show Qrm3 Z p1 cz h0 n0 _ T66.heap _
              rw [e66]
              exact ⟨(1 : Int32), rfl, N66, K63, (own_tokS (R66_0.resolve_left hc42))⟩
        · have pre71 : ∀ t, Steps p.tables e below (s₁.setTop (mkF m 30 #[.val (.int p1)] [])) t → Steps p.tables e below (s₁.setTop (entryFrame m #[(.int p1)] 1)) t := by
            intro t kt
            refine pre61 t ?_
            show Steps p.tables e below (s₁.setTop (mkF m 27 #[.val (.int p1)] [(.int (48 : Int32)), (.int p1)])) _
            refine XS.icmpNo X0.here hx rfl (hb hby d3_27) rfl (flt hc27).1 ?_
            exact kt
          have pre72 : ∀ t, Steps p.tables e below (s₁.setTop (mkF m 33 #[.val (.int p1)] [(.int (57 : Int32)), (.int p1)])) t → Steps p.tables e below (s₁.setTop (entryFrame m #[(.int p1)] 1)) t := by
            intro t kt
            refine pre71 t ?_
            show Steps p.tables e below (s₁.setTop (mkF m 30 #[.val (.int p1)] [])) _
            refine XS.iloadN X0.here hx rfl (hb hby d3_30) rfl ?_
            show Steps p.tables e below (s₁.setTop (mkF m 31 #[.val (.int p1)] [(.int p1)])) _
            refine XS.bipush X0.here hx rfl (hb hby d3_31) ?_
            exact kt
          by_cases hc33 : (57 : Int32) < p1
          · have pre73 : ∀ t, Steps p.tables e below (s₁.setTop (mkF m 36 #[.val (.int p1)] [])) t → Steps p.tables e below (s₁.setTop (entryFrame m #[(.int p1)] 1)) t := by
              intro t kt
              refine pre72 t ?_
              show Steps p.tables e below (s₁.setTop (mkF m 33 #[.val (.int p1)] [(.int (57 : Int32)), (.int p1)])) _
              refine XS.icmpNo X0.here hx rfl (hb hby d3_33) rfl (tlt hc33).2.2.2 ?_
              exact kt
            obtain ⟨a74, T74, h74, k74, b74, kb74, X74, e74, E74, hS74, hk74, hZ, hown, A74, C74, F74, V74, la74, lb74, CQ74, Li74, sf74, st74⟩ := ldcCH (s := s) (vm0 := s.vm) (text := own_t14) X0 hx hZ hown (hw _ (List.mem_of_getElem? (i := 14) rfl)) wS e0 hS0 (Nat.zero_le _) hEL own_mem14 CR0.1 (vs := (own_cs14.map fun c => c.toInt8.toInt32).map Value.int) (z := (15 : Int32)) own_ht14 (by decide) (by decide +kernel) (g := (mkF m 36 #[.val (.int p1)] [])) rfl (hb hby d3_36) (n := 60) (by decide +kernel) (by decide) (by decide) (by decide)
            have K74 : Keep h0 h74 [] := (Keep.refl h0 []).ext E74
            have Z74 : n0 ≤ h74.size := Nat.le_trans Z0 E74.1
            have mo74_0 := Nat.le_trans (Nat.zero_le _) E74.1
            have ST_COMPACT_STRINGS_75 := ST_COMPACT_STRINGS.ext E74
            have CR74 := CR0.trans CQ74
            have pre74 : ∀ t, Steps p.tables e below (T74.setTop (mkF m 38 #[.val (.int p1)] [(.ref a74)])) t → Steps p.tables e below (s₁.setTop (entryFrame m #[(.int p1)] 1)) t := fun t kt => pre73 t (st74 _ kt)
            have pre76 : ∀ t, Steps p.tables e below (T74.setTop (mkF m 39 #[.val (.int p1)] [(.int p1), (.ref a74)])) t → Steps p.tables e below (s₁.setTop (entryFrame m #[(.int p1)] 1)) t := by
              intro t kt
              refine pre74 t ?_
              show Steps p.tables e below (T74.setTop (mkF m 38 #[.val (.int p1)] [(.ref a74)])) _
              refine XS.iloadN X74.here hx rfl (hb hby d3_38) rfl ?_
              exact kt
            obtain ⟨cq77, kq77, q77a, q77b, q77c⟩ := isOf hZ e74 A74
            obtain ⟨_, _, ⟨T77, L77, k77, n77⟩, -, X77, ⟨Lc77, hQ77, l77, y77, z77⟩, st77⟩ := X74.virtualBack hx (y := (⟨"java/lang/String", "indexOf", "(I)I"⟩ : MethodName)) (z := (⟨"java/lang/String", "indexOf", "(I)I"⟩ : MethodName)) hown (mvT hZ (hw _ (List.mem_of_getElem? (i := 22) rfl))) (mvT hZ (hw _ (List.mem_of_getElem? (i := 23) rfl))) (notFace_of_selects (args := #[]) (mvT hZ (hw _ (List.mem_of_getElem? (i := 25) rfl)))) (mvT hZ (hw _ (List.mem_of_getElem? (i := 25) rfl))) (mvT hZ (hw _ (List.mem_of_getElem? (i := 24) rfl))) (by decide) (backOf (W := 0) (rm4 l Z a0 hw [] a74 p1 b74 kb74 own_cs14 (15 : Int32) cz h74 n0 Z74 A74 F74 C74 V74 ST_COMPACT_STRINGS_75 (hCS) (own_hl14) (own_hc14)) hZ (hw _ (List.mem_of_getElem? (i := 26) rfl)) (hw _ (List.mem_of_getElem? (i := 15) rfl)) (by decide) (by decide)) q77a q77c (g := (mkF m 39 #[.val (.int p1)] [(.int p1), (.ref a74)])) rfl (by rw [hml]; rfl) (Steps.refl _) (argsL := [(.int p1)]) (rest := []) (lenOf pd_6 rfl) rfl (by show 2 * 0 + _ ≤ _; exact Nat.le_of_eq rfl) (hb hby d3_39) (fun _ _ => ⟨rfl, e74, (by decide : 2 + 0 ≤ _), (by decide : 64 + 0 ≤ _)⟩)
            dsimp only [Pt.U, Pt.locs, Pt.cells, Pt.slots] at X77 l77 y77 z77 st77 hQ77
            subst l77 y77 z77
            obtain ⟨rz_77, rfl, N77q, e77, R77_0⟩ := hQ77
            have N77 := Fr.app N0 N77q
            have pre77 : ∀ t, Steps p.tables e below (T77.setTop (mkF m 42 #[.val (.int p1)] [(.int rz_77)])) t → Steps p.tables e below (s₁.setTop (entryFrame m #[(.int p1)] 1)) t := fun t kt => pre76 t (st77.trans kt)
            by_cases hc42 : rz_77 < (0 : Int32)
            · have pre78 : ∀ t, Steps p.tables e below (T77.setTop (mkF m 49 #[.val (.int p1)] [])) t → Steps p.tables e below (s₁.setTop (entryFrame m #[(.int p1)] 1)) t := by
                intro t kt
                refine pre77 t ?_
                show Steps p.tables e below (T77.setTop (mkF m 42 #[.val (.int p1)] [(.int rz_77)])) _
                refine XS.ifYes X77.here hx rfl (pc0 := 42) (pc' := 49) rfl (hb hby d3_42) rfl ((if0 _ _).trans (tlt hc42).1) (by decide) (by decide) ?_
                exact kt
              have pre79 : ∀ t, Steps p.tables e below (T77.setTop (mkF m 50 #[.val (.int p1)] [(.int (0 : Int32))])) t → Steps p.tables e below (s₁.setTop (entryFrame m #[(.int p1)] 1)) t := by
                intro t kt
                refine pre78 t ?_
                show Steps p.tables e below (T77.setTop (mkF m 49 #[.val (.int p1)] [])) _
                refine XS.iconst X77.here hx rfl (hb hby d3_49) ?_
                exact kt
              obtain ⟨fs, hr, hrun, hended, hEnd⟩ := X77.leaveW (s := s) (vm₁ := T74.vm) hS74 (by rw [e77]; exact hk74) (v := some (.int (0 : Int32))) (fun h => by rw [Bd.returns] at h; cases h)
              refine ⟨_, _, pre79 _ ?_, hrun, hended, _, _, rfl, ?_, (by rw [hh]; exact CR74.trans (by rw [show (T77.setFrames fs).heap = h74 from e77]; exact (show CHr Z EL T74.vm h74 T77.vm h74 from CHv.at (s := s) (vm0 := T74.vm) X77 hZ hEL CR74.1))), hEnd.1, hEnd.2.1, hEnd.2.2.1, hEnd.2.2.2.mono (by decide) (by decide)⟩
              · show Steps p.tables e below (T77.setTop (mkF m 50 #[.val (.int p1)] [(.int (0 : Int32))])) _
                exact retN X77 hx (t := .boolean) Bd.returns (by simp) (hb hby d3_50) hr
              · show Qrm3 Z p1 cz h0 n0 _ T77.heap _
                rw [e77]
                exact ⟨(0 : Int32), rfl, N77, K74, Or.inl rfl⟩
            · have pre80 : ∀ t, Steps p.tables e below (T77.setTop (mkF m 45 #[.val (.int p1)] [])) t → Steps p.tables e below (s₁.setTop (entryFrame m #[(.int p1)] 1)) t := by
                intro t kt
                refine pre77 t ?_
                show Steps p.tables e below (T77.setTop (mkF m 42 #[.val (.int p1)] [(.int rz_77)])) _
                refine XS.ifNo X77.here hx rfl (hb hby d3_42) rfl ((if0 _ _).trans (flt hc42).1) ?_
                exact kt
              have pre81 : ∀ t, Steps p.tables e below (T77.setTop (mkF m 50 #[.val (.int p1)] [(.int (1 : Int32))])) t → Steps p.tables e below (s₁.setTop (entryFrame m #[(.int p1)] 1)) t := by
                intro t kt
                refine pre80 t ?_
                show Steps p.tables e below (T77.setTop (mkF m 45 #[.val (.int p1)] [])) _
                refine XS.iconst X77.here hx rfl (hb hby d3_45) ?_
                show Steps p.tables e below (T77.setTop (mkF m 46 #[.val (.int p1)] [(.int (1 : Int32))])) _
                refine XS.goto X77.here hx rfl (pc0 := 46) (pc' := 50) rfl (hb hby d3_46) (by decide) (by decide) ?_
                exact kt
              obtain ⟨fs, hr, hrun, hended, hEnd⟩ := X77.leaveW (s := s) (vm₁ := T74.vm) hS74 (by rw [e77]; exact hk74) (v := some (.int (1 : Int32))) (fun h => by rw [Bd.returns] at h; cases h)
              refine ⟨_, _, pre81 _ ?_, hrun, hended, _, _, rfl, ?_, (by rw [hh]; exact CR74.trans (by rw [show (T77.setFrames fs).heap = h74 from e77]; exact (show CHr Z EL T74.vm h74 T77.vm h74 from CHv.at (s := s) (vm0 := T74.vm) X77 hZ hEL CR74.1))), hEnd.1, hEnd.2.1, hEnd.2.2.1, hEnd.2.2.2.mono (by decide) (by decide)⟩
              · show Steps p.tables e below (T77.setTop (mkF m 50 #[.val (.int p1)] [(.int (1 : Int32))])) _
                exact retN X77 hx (t := .boolean) Bd.returns (by simp) (hb hby d3_50) hr
              · show Qrm3 Z p1 cz h0 n0 _ T77.heap _
                rw [e77]
                exact ⟨(1 : Int32), rfl, N77, K74, (own_tokS (R77_0.resolve_left hc42))⟩
          · have pre82 : ∀ t, Steps p.tables e below (s₁.setTop (mkF m 45 #[.val (.int p1)] [])) t → Steps p.tables e below (s₁.setTop (entryFrame m #[(.int p1)] 1)) t := by
              intro t kt
              refine pre72 t ?_
              show Steps p.tables e below (s₁.setTop (mkF m 33 #[.val (.int p1)] [(.int (57 : Int32)), (.int p1)])) _
              refine XS.icmpYes X0.here hx rfl (pc0 := 33) (pc' := 45) rfl (hb hby d3_33) rfl (flt hc33).2.2.2 (by decide) (by decide) ?_
              exact kt
            have pre83 : ∀ t, Steps p.tables e below (s₁.setTop (mkF m 50 #[.val (.int p1)] [(.int (1 : Int32))])) t → Steps p.tables e below (s₁.setTop (entryFrame m #[(.int p1)] 1)) t := by
              intro t kt
              refine pre82 t ?_
              show Steps p.tables e below (s₁.setTop (mkF m 45 #[.val (.int p1)] [])) _
              refine XS.iconst X0.here hx rfl (hb hby d3_45) ?_
              show Steps p.tables e below (s₁.setTop (mkF m 46 #[.val (.int p1)] [(.int (1 : Int32))])) _
              refine XS.goto X0.here hx rfl (pc0 := 46) (pc' := 50) rfl (hb hby d3_46) (by decide) (by decide) ?_
              exact kt
            obtain ⟨fs, hr, hrun, hended, hEnd⟩ := X0.leaveW (s := s) (vm₁ := s.vm) hS0 (by rw [e0]; exact (Nat.zero_le _)) (v := some (.int (1 : Int32))) (fun h => by rw [Bd.returns] at h; cases h)
            refine ⟨_, _, pre83 _ ?_, hrun, hended, _, _, rfl, ?_, (by rw [hh]; exact CR0.trans (by rw [show (s₁.setFrames fs).heap = h0 from e0]; exact (show CHr Z EL s.vm h0 s₁.vm h0 from CHv.at (s := s) (vm0 := s.vm) X0 hZ hEL CR0.1))), hEnd.1, hEnd.2.1, hEnd.2.2.1, hEnd.2.2.2.mono (by decide) (by decide)⟩
            · show Steps p.tables e below (s₁.setTop (mkF m 50 #[.val (.int p1)] [(.int (1 : Int32))])) _
              exact retN X0 hx (t := .boolean) Bd.returns (by simp) (hb hby d3_50) hr
            · show Qrm3 Z p1 cz h0 n0 _ s₁.heap _
              rw [e0]
              exact ⟨(1 : Int32), rfl, N0, (Keep.refl h0 []), (own_tokR hc27 hc33)⟩
      · have pre84 : ∀ t, Steps p.tables e below (s₁.setTop (mkF m 18 #[.val (.int p1)] [])) t → Steps p.tables e below (s₁.setTop (entryFrame m #[(.int p1)] 1)) t := by
          intro t kt
          refine pre59 t ?_
          show Steps p.tables e below (s₁.setTop (mkF m 15 #[.val (.int p1)] [(.int (65 : Int32)), (.int p1)])) _
          refine XS.icmpNo X0.here hx rfl (hb hby d3_15) rfl (flt hc15).1 ?_
          exact kt
        have pre85 : ∀ t, Steps p.tables e below (s₁.setTop (mkF m 21 #[.val (.int p1)] [(.int (90 : Int32)), (.int p1)])) t → Steps p.tables e below (s₁.setTop (entryFrame m #[(.int p1)] 1)) t := by
          intro t kt
          refine pre84 t ?_
          show Steps p.tables e below (s₁.setTop (mkF m 18 #[.val (.int p1)] [])) _
          refine XS.iloadN X0.here hx rfl (hb hby d3_18) rfl ?_
          show Steps p.tables e below (s₁.setTop (mkF m 19 #[.val (.int p1)] [(.int p1)])) _
          refine XS.bipush X0.here hx rfl (hb hby d3_19) ?_
          exact kt
        by_cases hc21 : (90 : Int32) < p1
        · have pre86 : ∀ t, Steps p.tables e below (s₁.setTop (mkF m 24 #[.val (.int p1)] [])) t → Steps p.tables e below (s₁.setTop (entryFrame m #[(.int p1)] 1)) t := by
            intro t kt
            refine pre85 t ?_
            show Steps p.tables e below (s₁.setTop (mkF m 21 #[.val (.int p1)] [(.int (90 : Int32)), (.int p1)])) _
            refine XS.icmpNo X0.here hx rfl (hb hby d3_21) rfl (tlt hc21).2.2.2 ?_
            exact kt
          have pre87 : ∀ t, Steps p.tables e below (s₁.setTop (mkF m 27 #[.val (.int p1)] [(.int (48 : Int32)), (.int p1)])) t → Steps p.tables e below (s₁.setTop (entryFrame m #[(.int p1)] 1)) t := by
            intro t kt
            refine pre86 t ?_
            show Steps p.tables e below (s₁.setTop (mkF m 24 #[.val (.int p1)] [])) _
            refine XS.iloadN X0.here hx rfl (hb hby d3_24) rfl ?_
            show Steps p.tables e below (s₁.setTop (mkF m 25 #[.val (.int p1)] [(.int p1)])) _
            refine XS.bipush X0.here hx rfl (hb hby d3_25) ?_
            exact kt
          by_cases hc27 : p1 < (48 : Int32)
          · have pre88 : ∀ t, Steps p.tables e below (s₁.setTop (mkF m 36 #[.val (.int p1)] [])) t → Steps p.tables e below (s₁.setTop (entryFrame m #[(.int p1)] 1)) t := by
              intro t kt
              refine pre87 t ?_
              show Steps p.tables e below (s₁.setTop (mkF m 27 #[.val (.int p1)] [(.int (48 : Int32)), (.int p1)])) _
              refine XS.icmpYes X0.here hx rfl (pc0 := 27) (pc' := 36) rfl (hb hby d3_27) rfl (tlt hc27).1 (by decide) (by decide) ?_
              exact kt
            obtain ⟨a89, T89, h89, k89, b89, kb89, X89, e89, E89, hS89, hk89, hZ, hown, A89, C89, F89, V89, la89, lb89, CQ89, Li89, sf89, st89⟩ := ldcCH (s := s) (vm0 := s.vm) (text := own_t14) X0 hx hZ hown (hw _ (List.mem_of_getElem? (i := 14) rfl)) wS e0 hS0 (Nat.zero_le _) hEL own_mem14 CR0.1 (vs := (own_cs14.map fun c => c.toInt8.toInt32).map Value.int) (z := (15 : Int32)) own_ht14 (by decide) (by decide +kernel) (g := (mkF m 36 #[.val (.int p1)] [])) rfl (hb hby d3_36) (n := 60) (by decide +kernel) (by decide) (by decide) (by decide)
            have K89 : Keep h0 h89 [] := (Keep.refl h0 []).ext E89
            have Z89 : n0 ≤ h89.size := Nat.le_trans Z0 E89.1
            have mo89_0 := Nat.le_trans (Nat.zero_le _) E89.1
            have ST_COMPACT_STRINGS_90 := ST_COMPACT_STRINGS.ext E89
            have CR89 := CR0.trans CQ89
            have pre89 : ∀ t, Steps p.tables e below (T89.setTop (mkF m 38 #[.val (.int p1)] [(.ref a89)])) t → Steps p.tables e below (s₁.setTop (entryFrame m #[(.int p1)] 1)) t := fun t kt => pre88 t (st89 _ kt)
            have pre91 : ∀ t, Steps p.tables e below (T89.setTop (mkF m 39 #[.val (.int p1)] [(.int p1), (.ref a89)])) t → Steps p.tables e below (s₁.setTop (entryFrame m #[(.int p1)] 1)) t := by
              intro t kt
              refine pre89 t ?_
              show Steps p.tables e below (T89.setTop (mkF m 38 #[.val (.int p1)] [(.ref a89)])) _
              refine XS.iloadN X89.here hx rfl (hb hby d3_38) rfl ?_
              exact kt
            obtain ⟨cq92, kq92, q92a, q92b, q92c⟩ := isOf hZ e89 A89
            obtain ⟨_, _, ⟨T92, L92, k92, n92⟩, -, X92, ⟨Lc92, hQ92, l92, y92, z92⟩, st92⟩ := X89.virtualBack hx (y := (⟨"java/lang/String", "indexOf", "(I)I"⟩ : MethodName)) (z := (⟨"java/lang/String", "indexOf", "(I)I"⟩ : MethodName)) hown (mvT hZ (hw _ (List.mem_of_getElem? (i := 22) rfl))) (mvT hZ (hw _ (List.mem_of_getElem? (i := 23) rfl))) (notFace_of_selects (args := #[]) (mvT hZ (hw _ (List.mem_of_getElem? (i := 25) rfl)))) (mvT hZ (hw _ (List.mem_of_getElem? (i := 25) rfl))) (mvT hZ (hw _ (List.mem_of_getElem? (i := 24) rfl))) (by decide) (backOf (W := 0) (rm4 l Z a0 hw [] a89 p1 b89 kb89 own_cs14 (15 : Int32) cz h89 n0 Z89 A89 F89 C89 V89 ST_COMPACT_STRINGS_90 (hCS) (own_hl14) (own_hc14)) hZ (hw _ (List.mem_of_getElem? (i := 26) rfl)) (hw _ (List.mem_of_getElem? (i := 15) rfl)) (by decide) (by decide)) q92a q92c (g := (mkF m 39 #[.val (.int p1)] [(.int p1), (.ref a89)])) rfl (by rw [hml]; rfl) (Steps.refl _) (argsL := [(.int p1)]) (rest := []) (lenOf pd_6 rfl) rfl (by show 2 * 0 + _ ≤ _; exact Nat.le_of_eq rfl) (hb hby d3_39) (fun _ _ => ⟨rfl, e89, (by decide : 2 + 0 ≤ _), (by decide : 64 + 0 ≤ _)⟩)
            dsimp only [Pt.U, Pt.locs, Pt.cells, Pt.slots] at X92 l92 y92 z92 st92 hQ92
            subst l92 y92 z92
            obtain ⟨rz_92, rfl, N92q, e92, R92_0⟩ := hQ92
            have N92 := Fr.app N0 N92q
            have pre92 : ∀ t, Steps p.tables e below (T92.setTop (mkF m 42 #[.val (.int p1)] [(.int rz_92)])) t → Steps p.tables e below (s₁.setTop (entryFrame m #[(.int p1)] 1)) t := fun t kt => pre91 t (st92.trans kt)
            by_cases hc42 : rz_92 < (0 : Int32)
            · have pre93 : ∀ t, Steps p.tables e below (T92.setTop (mkF m 49 #[.val (.int p1)] [])) t → Steps p.tables e below (s₁.setTop (entryFrame m #[(.int p1)] 1)) t := by
                intro t kt
                refine pre92 t ?_
                show Steps p.tables e below (T92.setTop (mkF m 42 #[.val (.int p1)] [(.int rz_92)])) _
                refine XS.ifYes X92.here hx rfl (pc0 := 42) (pc' := 49) rfl (hb hby d3_42) rfl ((if0 _ _).trans (tlt hc42).1) (by decide) (by decide) ?_
                exact kt
              have pre94 : ∀ t, Steps p.tables e below (T92.setTop (mkF m 50 #[.val (.int p1)] [(.int (0 : Int32))])) t → Steps p.tables e below (s₁.setTop (entryFrame m #[(.int p1)] 1)) t := by
                intro t kt
                refine pre93 t ?_
                show Steps p.tables e below (T92.setTop (mkF m 49 #[.val (.int p1)] [])) _
                refine XS.iconst X92.here hx rfl (hb hby d3_49) ?_
                exact kt
              obtain ⟨fs, hr, hrun, hended, hEnd⟩ := X92.leaveW (s := s) (vm₁ := T89.vm) hS89 (by rw [e92]; exact hk89) (v := some (.int (0 : Int32))) (fun h => by rw [Bd.returns] at h; cases h)
              refine ⟨_, _, pre94 _ ?_, hrun, hended, _, _, rfl, ?_, (by rw [hh]; exact CR89.trans (by rw [show (T92.setFrames fs).heap = h89 from e92]; exact (show CHr Z EL T89.vm h89 T92.vm h89 from CHv.at (s := s) (vm0 := T89.vm) X92 hZ hEL CR89.1))), hEnd.1, hEnd.2.1, hEnd.2.2.1, hEnd.2.2.2.mono (by decide) (by decide)⟩
              · show Steps p.tables e below (T92.setTop (mkF m 50 #[.val (.int p1)] [(.int (0 : Int32))])) _
                exact retN X92 hx (t := .boolean) Bd.returns (by simp) (hb hby d3_50) hr
              · show Qrm3 Z p1 cz h0 n0 _ T92.heap _
                rw [e92]
                exact ⟨(0 : Int32), rfl, N92, K89, Or.inl rfl⟩
            · have pre95 : ∀ t, Steps p.tables e below (T92.setTop (mkF m 45 #[.val (.int p1)] [])) t → Steps p.tables e below (s₁.setTop (entryFrame m #[(.int p1)] 1)) t := by
                intro t kt
                refine pre92 t ?_
                show Steps p.tables e below (T92.setTop (mkF m 42 #[.val (.int p1)] [(.int rz_92)])) _
                refine XS.ifNo X92.here hx rfl (hb hby d3_42) rfl ((if0 _ _).trans (flt hc42).1) ?_
                exact kt
              have pre96 : ∀ t, Steps p.tables e below (T92.setTop (mkF m 50 #[.val (.int p1)] [(.int (1 : Int32))])) t → Steps p.tables e below (s₁.setTop (entryFrame m #[(.int p1)] 1)) t := by
                intro t kt
                refine pre95 t ?_
                show Steps p.tables e below (T92.setTop (mkF m 45 #[.val (.int p1)] [])) _
                refine XS.iconst X92.here hx rfl (hb hby d3_45) ?_
                show Steps p.tables e below (T92.setTop (mkF m 46 #[.val (.int p1)] [(.int (1 : Int32))])) _
                refine XS.goto X92.here hx rfl (pc0 := 46) (pc' := 50) rfl (hb hby d3_46) (by decide) (by decide) ?_
                exact kt
              obtain ⟨fs, hr, hrun, hended, hEnd⟩ := X92.leaveW (s := s) (vm₁ := T89.vm) hS89 (by rw [e92]; exact hk89) (v := some (.int (1 : Int32))) (fun h => by rw [Bd.returns] at h; cases h)
              refine ⟨_, _, pre96 _ ?_, hrun, hended, _, _, rfl, ?_, (by rw [hh]; exact CR89.trans (by rw [show (T92.setFrames fs).heap = h89 from e92]; exact (show CHr Z EL T89.vm h89 T92.vm h89 from CHv.at (s := s) (vm0 := T89.vm) X92 hZ hEL CR89.1))), hEnd.1, hEnd.2.1, hEnd.2.2.1, hEnd.2.2.2.mono (by decide) (by decide)⟩
              · show Steps p.tables e below (T92.setTop (mkF m 50 #[.val (.int p1)] [(.int (1 : Int32))])) _
                exact retN X92 hx (t := .boolean) Bd.returns (by simp) (hb hby d3_50) hr
              · show Qrm3 Z p1 cz h0 n0 _ T92.heap _
                rw [e92]
                exact ⟨(1 : Int32), rfl, N92, K89, (own_tokS (R92_0.resolve_left hc42))⟩
          · have pre97 : ∀ t, Steps p.tables e below (s₁.setTop (mkF m 30 #[.val (.int p1)] [])) t → Steps p.tables e below (s₁.setTop (entryFrame m #[(.int p1)] 1)) t := by
              intro t kt
              refine pre87 t ?_
              show Steps p.tables e below (s₁.setTop (mkF m 27 #[.val (.int p1)] [(.int (48 : Int32)), (.int p1)])) _
              refine XS.icmpNo X0.here hx rfl (hb hby d3_27) rfl (flt hc27).1 ?_
              exact kt
            have pre98 : ∀ t, Steps p.tables e below (s₁.setTop (mkF m 33 #[.val (.int p1)] [(.int (57 : Int32)), (.int p1)])) t → Steps p.tables e below (s₁.setTop (entryFrame m #[(.int p1)] 1)) t := by
              intro t kt
              refine pre97 t ?_
              show Steps p.tables e below (s₁.setTop (mkF m 30 #[.val (.int p1)] [])) _
              refine XS.iloadN X0.here hx rfl (hb hby d3_30) rfl ?_
              show Steps p.tables e below (s₁.setTop (mkF m 31 #[.val (.int p1)] [(.int p1)])) _
              refine XS.bipush X0.here hx rfl (hb hby d3_31) ?_
              exact kt
            by_cases hc33 : (57 : Int32) < p1
            · have pre99 : ∀ t, Steps p.tables e below (s₁.setTop (mkF m 36 #[.val (.int p1)] [])) t → Steps p.tables e below (s₁.setTop (entryFrame m #[(.int p1)] 1)) t := by
                intro t kt
                refine pre98 t ?_
                show Steps p.tables e below (s₁.setTop (mkF m 33 #[.val (.int p1)] [(.int (57 : Int32)), (.int p1)])) _
                refine XS.icmpNo X0.here hx rfl (hb hby d3_33) rfl (tlt hc33).2.2.2 ?_
                exact kt
              obtain ⟨a100, T100, h100, k100, b100, kb100, X100, e100, E100, hS100, hk100, hZ, hown, A100, C100, F100, V100, la100, lb100, CQ100, Li100, sf100, st100⟩ := ldcCH (s := s) (vm0 := s.vm) (text := own_t14) X0 hx hZ hown (hw _ (List.mem_of_getElem? (i := 14) rfl)) wS e0 hS0 (Nat.zero_le _) hEL own_mem14 CR0.1 (vs := (own_cs14.map fun c => c.toInt8.toInt32).map Value.int) (z := (15 : Int32)) own_ht14 (by decide) (by decide +kernel) (g := (mkF m 36 #[.val (.int p1)] [])) rfl (hb hby d3_36) (n := 60) (by decide +kernel) (by decide) (by decide) (by decide)
              have K100 : Keep h0 h100 [] := (Keep.refl h0 []).ext E100
              have Z100 : n0 ≤ h100.size := Nat.le_trans Z0 E100.1
              have mo100_0 := Nat.le_trans (Nat.zero_le _) E100.1
              have ST_COMPACT_STRINGS_101 := ST_COMPACT_STRINGS.ext E100
              have CR100 := CR0.trans CQ100
              have pre100 : ∀ t, Steps p.tables e below (T100.setTop (mkF m 38 #[.val (.int p1)] [(.ref a100)])) t → Steps p.tables e below (s₁.setTop (entryFrame m #[(.int p1)] 1)) t := fun t kt => pre99 t (st100 _ kt)
              have pre102 : ∀ t, Steps p.tables e below (T100.setTop (mkF m 39 #[.val (.int p1)] [(.int p1), (.ref a100)])) t → Steps p.tables e below (s₁.setTop (entryFrame m #[(.int p1)] 1)) t := by
                intro t kt
                refine pre100 t ?_
                show Steps p.tables e below (T100.setTop (mkF m 38 #[.val (.int p1)] [(.ref a100)])) _
                refine XS.iloadN X100.here hx rfl (hb hby d3_38) rfl ?_
                exact kt
              obtain ⟨cq103, kq103, q103a, q103b, q103c⟩ := isOf hZ e100 A100
              obtain ⟨_, _, ⟨T103, L103, k103, n103⟩, -, X103, ⟨Lc103, hQ103, l103, y103, z103⟩, st103⟩ := X100.virtualBack hx (y := (⟨"java/lang/String", "indexOf", "(I)I"⟩ : MethodName)) (z := (⟨"java/lang/String", "indexOf", "(I)I"⟩ : MethodName)) hown (mvT hZ (hw _ (List.mem_of_getElem? (i := 22) rfl))) (mvT hZ (hw _ (List.mem_of_getElem? (i := 23) rfl))) (notFace_of_selects (args := #[]) (mvT hZ (hw _ (List.mem_of_getElem? (i := 25) rfl)))) (mvT hZ (hw _ (List.mem_of_getElem? (i := 25) rfl))) (mvT hZ (hw _ (List.mem_of_getElem? (i := 24) rfl))) (by decide) (backOf (W := 0) (rm4 l Z a0 hw [] a100 p1 b100 kb100 own_cs14 (15 : Int32) cz h100 n0 Z100 A100 F100 C100 V100 ST_COMPACT_STRINGS_101 (hCS) (own_hl14) (own_hc14)) hZ (hw _ (List.mem_of_getElem? (i := 26) rfl)) (hw _ (List.mem_of_getElem? (i := 15) rfl)) (by decide) (by decide)) q103a q103c (g := (mkF m 39 #[.val (.int p1)] [(.int p1), (.ref a100)])) rfl (by rw [hml]; rfl) (Steps.refl _) (argsL := [(.int p1)]) (rest := []) (lenOf pd_6 rfl) rfl (by show 2 * 0 + _ ≤ _; exact Nat.le_of_eq rfl) (hb hby d3_39) (fun _ _ => ⟨rfl, e100, (by decide : 2 + 0 ≤ _), (by decide : 64 + 0 ≤ _)⟩)
              dsimp only [Pt.U, Pt.locs, Pt.cells, Pt.slots] at X103 l103 y103 z103 st103 hQ103
              subst l103 y103 z103
              obtain ⟨rz_103, rfl, N103q, e103, R103_0⟩ := hQ103
              have N103 := Fr.app N0 N103q
              have pre103 : ∀ t, Steps p.tables e below (T103.setTop (mkF m 42 #[.val (.int p1)] [(.int rz_103)])) t → Steps p.tables e below (s₁.setTop (entryFrame m #[(.int p1)] 1)) t := fun t kt => pre102 t (st103.trans kt)
              by_cases hc42 : rz_103 < (0 : Int32)
              · have pre104 : ∀ t, Steps p.tables e below (T103.setTop (mkF m 49 #[.val (.int p1)] [])) t → Steps p.tables e below (s₁.setTop (entryFrame m #[(.int p1)] 1)) t := by
                  intro t kt
                  refine pre103 t ?_
                  show Steps p.tables e below (T103.setTop (mkF m 42 #[.val (.int p1)] [(.int rz_103)])) _
                  refine XS.ifYes X103.here hx rfl (pc0 := 42) (pc' := 49) rfl (hb hby d3_42) rfl ((if0 _ _).trans (tlt hc42).1) (by decide) (by decide) ?_
                  exact kt
                have pre105 : ∀ t, Steps p.tables e below (T103.setTop (mkF m 50 #[.val (.int p1)] [(.int (0 : Int32))])) t → Steps p.tables e below (s₁.setTop (entryFrame m #[(.int p1)] 1)) t := by
                  intro t kt
                  refine pre104 t ?_
                  show Steps p.tables e below (T103.setTop (mkF m 49 #[.val (.int p1)] [])) _
                  refine XS.iconst X103.here hx rfl (hb hby d3_49) ?_
                  exact kt
                obtain ⟨fs, hr, hrun, hended, hEnd⟩ := X103.leaveW (s := s) (vm₁ := T100.vm) hS100 (by rw [e103]; exact hk100) (v := some (.int (0 : Int32))) (fun h => by rw [Bd.returns] at h; cases h)
                refine ⟨_, _, pre105 _ ?_, hrun, hended, _, _, rfl, ?_, (by rw [hh]; exact CR100.trans (by rw [show (T103.setFrames fs).heap = h100 from e103]; exact (show CHr Z EL T100.vm h100 T103.vm h100 from CHv.at (s := s) (vm0 := T100.vm) X103 hZ hEL CR100.1))), hEnd.1, hEnd.2.1, hEnd.2.2.1, hEnd.2.2.2.mono (by decide) (by decide)⟩
                · show Steps p.tables e below (T103.setTop (mkF m 50 #[.val (.int p1)] [(.int (0 : Int32))])) _
                  exact retN X103 hx (t := .boolean) Bd.returns (by simp) (hb hby d3_50) hr
                · show Qrm3 Z p1 cz h0 n0 _ T103.heap _
                  rw [e103]
                  exact ⟨(0 : Int32), rfl, N103, K100, Or.inl rfl⟩
              · have pre106 : ∀ t, Steps p.tables e below (T103.setTop (mkF m 45 #[.val (.int p1)] [])) t → Steps p.tables e below (s₁.setTop (entryFrame m #[(.int p1)] 1)) t := by
                  intro t kt
                  refine pre103 t ?_
                  show Steps p.tables e below (T103.setTop (mkF m 42 #[.val (.int p1)] [(.int rz_103)])) _
                  refine XS.ifNo X103.here hx rfl (hb hby d3_42) rfl ((if0 _ _).trans (flt hc42).1) ?_
                  exact kt
                have pre107 : ∀ t, Steps p.tables e below (T103.setTop (mkF m 50 #[.val (.int p1)] [(.int (1 : Int32))])) t → Steps p.tables e below (s₁.setTop (entryFrame m #[(.int p1)] 1)) t := by
                  intro t kt
                  refine pre106 t ?_
                  show Steps p.tables e below (T103.setTop (mkF m 45 #[.val (.int p1)] [])) _
                  refine XS.iconst X103.here hx rfl (hb hby d3_45) ?_
                  show Steps p.tables e below (T103.setTop (mkF m 46 #[.val (.int p1)] [(.int (1 : Int32))])) _
                  refine XS.goto X103.here hx rfl (pc0 := 46) (pc' := 50) rfl (hb hby d3_46) (by decide) (by decide) ?_
                  exact kt
                obtain ⟨fs, hr, hrun, hended, hEnd⟩ := X103.leaveW (s := s) (vm₁ := T100.vm) hS100 (by rw [e103]; exact hk100) (v := some (.int (1 : Int32))) (fun h => by rw [Bd.returns] at h; cases h)
                refine ⟨_, _, pre107 _ ?_, hrun, hended, _, _, rfl, ?_, (by rw [hh]; exact CR100.trans (by rw [show (T103.setFrames fs).heap = h100 from e103]; exact (show CHr Z EL T100.vm h100 T103.vm h100 from CHv.at (s := s) (vm0 := T100.vm) X103 hZ hEL CR100.1))), hEnd.1, hEnd.2.1, hEnd.2.2.1, hEnd.2.2.2.mono (by decide) (by decide)⟩
                · show Steps p.tables e below (T103.setTop (mkF m 50 #[.val (.int p1)] [(.int (1 : Int32))])) _
                  exact retN X103 hx (t := .boolean) Bd.returns (by simp) (hb hby d3_50) hr
                · show Qrm3 Z p1 cz h0 n0 _ T103.heap _
                  rw [e103]
                  exact ⟨(1 : Int32), rfl, N103, K100, (own_tokS (R103_0.resolve_left hc42))⟩
            · have pre108 : ∀ t, Steps p.tables e below (s₁.setTop (mkF m 45 #[.val (.int p1)] [])) t → Steps p.tables e below (s₁.setTop (entryFrame m #[(.int p1)] 1)) t := by
                intro t kt
                refine pre98 t ?_
                show Steps p.tables e below (s₁.setTop (mkF m 33 #[.val (.int p1)] [(.int (57 : Int32)), (.int p1)])) _
                refine XS.icmpYes X0.here hx rfl (pc0 := 33) (pc' := 45) rfl (hb hby d3_33) rfl (flt hc33).2.2.2 (by decide) (by decide) ?_
                exact kt
              have pre109 : ∀ t, Steps p.tables e below (s₁.setTop (mkF m 50 #[.val (.int p1)] [(.int (1 : Int32))])) t → Steps p.tables e below (s₁.setTop (entryFrame m #[(.int p1)] 1)) t := by
                intro t kt
                refine pre108 t ?_
                show Steps p.tables e below (s₁.setTop (mkF m 45 #[.val (.int p1)] [])) _
                refine XS.iconst X0.here hx rfl (hb hby d3_45) ?_
                show Steps p.tables e below (s₁.setTop (mkF m 46 #[.val (.int p1)] [(.int (1 : Int32))])) _
                refine XS.goto X0.here hx rfl (pc0 := 46) (pc' := 50) rfl (hb hby d3_46) (by decide) (by decide) ?_
                exact kt
              obtain ⟨fs, hr, hrun, hended, hEnd⟩ := X0.leaveW (s := s) (vm₁ := s.vm) hS0 (by rw [e0]; exact (Nat.zero_le _)) (v := some (.int (1 : Int32))) (fun h => by rw [Bd.returns] at h; cases h)
              refine ⟨_, _, pre109 _ ?_, hrun, hended, _, _, rfl, ?_, (by rw [hh]; exact CR0.trans (by rw [show (s₁.setFrames fs).heap = h0 from e0]; exact (show CHr Z EL s.vm h0 s₁.vm h0 from CHv.at (s := s) (vm0 := s.vm) X0 hZ hEL CR0.1))), hEnd.1, hEnd.2.1, hEnd.2.2.1, hEnd.2.2.2.mono (by decide) (by decide)⟩
              · show Steps p.tables e below (s₁.setTop (mkF m 50 #[.val (.int p1)] [(.int (1 : Int32))])) _
                exact retN X0 hx (t := .boolean) Bd.returns (by simp) (hb hby d3_50) hr
              · show Qrm3 Z p1 cz h0 n0 _ s₁.heap _
                rw [e0]
                exact ⟨(1 : Int32), rfl, N0, (Keep.refl h0 []), (own_tokR hc27 hc33)⟩
        · have pre110 : ∀ t, Steps p.tables e below (s₁.setTop (mkF m 45 #[.val (.int p1)] [])) t → Steps p.tables e below (s₁.setTop (entryFrame m #[(.int p1)] 1)) t := by
            intro t kt
            refine pre85 t ?_
            show Steps p.tables e below (s₁.setTop (mkF m 21 #[.val (.int p1)] [(.int (90 : Int32)), (.int p1)])) _
            refine XS.icmpYes X0.here hx rfl (pc0 := 21) (pc' := 45) rfl (hb hby d3_21) rfl (flt hc21).2.2.2 (by decide) (by decide) ?_
            exact kt
          have pre111 : ∀ t, Steps p.tables e below (s₁.setTop (mkF m 50 #[.val (.int p1)] [(.int (1 : Int32))])) t → Steps p.tables e below (s₁.setTop (entryFrame m #[(.int p1)] 1)) t := by
            intro t kt
            refine pre110 t ?_
            show Steps p.tables e below (s₁.setTop (mkF m 45 #[.val (.int p1)] [])) _
            refine XS.iconst X0.here hx rfl (hb hby d3_45) ?_
            show Steps p.tables e below (s₁.setTop (mkF m 46 #[.val (.int p1)] [(.int (1 : Int32))])) _
            refine XS.goto X0.here hx rfl (pc0 := 46) (pc' := 50) rfl (hb hby d3_46) (by decide) (by decide) ?_
            exact kt
          obtain ⟨fs, hr, hrun, hended, hEnd⟩ := X0.leaveW (s := s) (vm₁ := s.vm) hS0 (by rw [e0]; exact (Nat.zero_le _)) (v := some (.int (1 : Int32))) (fun h => by rw [Bd.returns] at h; cases h)
          refine ⟨_, _, pre111 _ ?_, hrun, hended, _, _, rfl, ?_, (by rw [hh]; exact CR0.trans (by rw [show (s₁.setFrames fs).heap = h0 from e0]; exact (show CHr Z EL s.vm h0 s₁.vm h0 from CHv.at (s := s) (vm0 := s.vm) X0 hZ hEL CR0.1))), hEnd.1, hEnd.2.1, hEnd.2.2.1, hEnd.2.2.2.mono (by decide) (by decide)⟩
          · show Steps p.tables e below (s₁.setTop (mkF m 50 #[.val (.int p1)] [(.int (1 : Int32))])) _
            exact retN X0 hx (t := .boolean) Bd.returns (by simp) (hb hby d3_50) hr
          · show Qrm3 Z p1 cz h0 n0 _ s₁.heap _
            rw [e0]
            exact ⟨(1 : Int32), rfl, N0, (Keep.refl h0 []), (own_tokR hc15 hc21)⟩
    · have pre112 : ∀ t, Steps p.tables e below (s₁.setTop (mkF m 45 #[.val (.int p1)] [])) t → Steps p.tables e below (s₁.setTop (entryFrame m #[(.int p1)] 1)) t := by
        intro t kt
        refine pre57 t ?_
        show Steps p.tables e below (s₁.setTop (mkF m 9 #[.val (.int p1)] [(.int (122 : Int32)), (.int p1)])) _
        refine XS.icmpYes X0.here hx rfl (pc0 := 9) (pc' := 45) rfl (hb hby d3_9) rfl (flt hc9).2.2.2 (by decide) (by decide) ?_
        exact kt
      have pre113 : ∀ t, Steps p.tables e below (s₁.setTop (mkF m 50 #[.val (.int p1)] [(.int (1 : Int32))])) t → Steps p.tables e below (s₁.setTop (entryFrame m #[(.int p1)] 1)) t := by
        intro t kt
        refine pre112 t ?_
        show Steps p.tables e below (s₁.setTop (mkF m 45 #[.val (.int p1)] [])) _
        refine XS.iconst X0.here hx rfl (hb hby d3_45) ?_
        show Steps p.tables e below (s₁.setTop (mkF m 46 #[.val (.int p1)] [(.int (1 : Int32))])) _
        refine XS.goto X0.here hx rfl (pc0 := 46) (pc' := 50) rfl (hb hby d3_46) (by decide) (by decide) ?_
        exact kt
      obtain ⟨fs, hr, hrun, hended, hEnd⟩ := X0.leaveW (s := s) (vm₁ := s.vm) hS0 (by rw [e0]; exact (Nat.zero_le _)) (v := some (.int (1 : Int32))) (fun h => by rw [Bd.returns] at h; cases h)
      refine ⟨_, _, pre113 _ ?_, hrun, hended, _, _, rfl, ?_, (by rw [hh]; exact CR0.trans (by rw [show (s₁.setFrames fs).heap = h0 from e0]; exact (show CHr Z EL s.vm h0 s₁.vm h0 from CHv.at (s := s) (vm0 := s.vm) X0 hZ hEL CR0.1))), hEnd.1, hEnd.2.1, hEnd.2.2.1, hEnd.2.2.2.mono (by decide) (by decide)⟩
      · show Steps p.tables e below (s₁.setTop (mkF m 50 #[.val (.int p1)] [(.int (1 : Int32))])) _
        exact retN X0 hx (t := .boolean) Bd.returns (by simp) (hb hby d3_50) hr
      · show Qrm3 Z p1 cz h0 n0 _ s₁.heap _
        rw [e0]
        exact ⟨(1 : Int32), rfl, N0, (Keep.refl h0 []), (own_tokR hc3 hc9)⟩
def Q0 (n0 : Nat) (v : Option Value) (h : Heap) (L : List Loc) : Prop := v = some (.int (1 : Int32)) ∧ Fr n0 L
theorem ef_0 (m : MethodId) (x0 : Int32) : entryFrame m #[(.int x0)] maxLocals = mkF m 0 #[.val (.int x0), .unset, .unset, .unset, .unset] [] := by first | (simp [entryFrame, mkF, argsToLocals, Value.category, maxLocals]; done) | rfl
set_option maxRecDepth 65536 in
set_option maxHeartbeats 40000000 in
theorem rm0 (l : Launch) (Z : State) (a0 : Array Value) (hw : ∀ d ∈ tables_1, d.before a0 Z = true) (ws : List Jvm.Cond) (p1 : Int32) (cz : Int32) (h0 : Heap) (n0 : Nat) (Z0 : n0 ≤ h0.size) (SCS : Sta Z h0 "java/lang/String" "COMPACT_STRINGS" "Z" (.int cz)) (hCS : ¬ (cz = (0 : Int32))) :
    MetFree l x (head1 (Jvm.Cond.code x code maxLocals ret :: ws) room_1) (fun a U => a = #[(.int p1)] ∧ Z.Warmed39 U.vm ∧ U.heap = h0 ∧ CHv Z EL U.vm h0) (fun _ _ _ _ _ => True) (fun _ U o U' => ∃ v L, o = .returned v ∧ Q0 n0 v U'.heap L ∧ ReturnedEndW U o U' L room_1.cells room_1.slots) := by
  refine MetFree.of_bodySF (plainFor_of_name pn_3) hisR ?_
  intro p e s m args below meth c s₁ Bd hml0 hP hK
  obtain ⟨rfl, hZ, hh, hCH⟩ := hP
  have hS0 : s.Since s.vm 0 := (State.WarmedH.refl s).since 0
  have CR0 : CHr Z EL s.vm h0 s.vm h0 := CHr.refl hCH
  have hx := Bd.exec
  have hby := Bd.bytes
  have hml : c.maxLocals = 5 := hml0
  have hown : s.vm.findClass "com/example/cormorant/cormorant/job/HttpSyntaxIsPrintablePinLaw" = some m.cls := findClass_of_methodNamed Bd.named
  have hnm := (name_of_methodNamed Bd.named Bd.method).1
  have X0 : Stand p l e room_1 s m #[(.int p1)] below meth c s₁ [] 0 0 := Stand.of_body Bd
  have e0 : s₁.heap = h0 := by rw [← hh, Bd.state]; rfl
  have N0 := Fr.nil n0
  have pre0 : ∀ t, Steps p.tables e below (s₁.setTop (mkF m 0 #[.val (.int p1), .unset, .unset, .unset, .unset] [])) t → Steps p.tables e below (s₁.setTop (entryFrame m #[(.int p1)] maxLocals)) t := fun t k => castTop (ef_0 m p1) k
  have hEL : EW Z a0 EL := own_EW hw
  have wS : ∀ a ∈ Bundle.stringAtoms, a.before a0 Z = true := fun d hd => hw d ((by decide +kernel : ∀ d ∈ Bundle.stringAtoms, d ∈ tables_1) d hd)
  have pre1 : ∀ t, Steps p.tables e below (s₁.setTop (mkF m 1 #[.val (.int p1), .unset, .unset, .unset, .unset] [(.int p1)])) t → Steps p.tables e below (s₁.setTop (entryFrame m #[(.int p1)] maxLocals)) t := by
    intro t kt
    refine pre0 t ?_
    show Steps p.tables e below (s₁.setTop (mkF m 0 #[.val (.int p1), .unset, .unset, .unset, .unset] [])) _
    refine XS.iloadN X0.here hx rfl (hb hby at_0) rfl ?_
    exact kt
  obtain ⟨_, _, ⟨T2, L2, k2, n2⟩, -, X2, ⟨Lc2, hQ2, l2, y2, z2⟩, st2⟩ := Jvm.LawKit.callS X0 hx (y := (⟨"com/example/cormorant/cormorant/job/HttpSyntax", "isPrintable", "(I)Z"⟩ : MethodName)) hown (mvT hZ (hw _ (List.mem_of_getElem? (i := 0) rfl))) (mvT hZ (hw _ (List.mem_of_getElem? (i := 1) rfl))) (mvT hZ (hw _ (List.mem_of_getElem? (i := 2) rfl))) (mvT hZ (hw _ (List.mem_of_getElem? (i := 3) rfl))) (by decide) (backOf (W := 0) (rm1 l Z a0 hw [] p1 h0 n0) hZ (hw _ (List.mem_of_getElem? (i := 3) rfl)) (hw _ (List.mem_of_getElem? (i := 2) rfl)) (by decide) (by decide)) (g := (mkF m 1 #[.val (.int p1), .unset, .unset, .unset, .unset] [(.int p1)])) rfl (by rw [hml]; rfl) (argsL := [(.int p1)]) (rest := []) (lenOf pd_1 rfl) rfl (by show 2 * 0 + _ ≤ _; exact Nat.le_of_eq rfl) (hb hby at_1) (fun _ _ => ⟨rfl, e0, (by decide : 0 + 0 ≤ _), (by decide : 0 + 0 ≤ _)⟩)
  dsimp only [Pt.U, Pt.locs, Pt.cells, Pt.slots] at X2 l2 y2 z2 st2 hQ2
  subst l2 y2 z2
  obtain ⟨rfl, N2q, e2⟩ := hQ2
  have N2 := Fr.app N0 N2q
  have pre2 : ∀ t, Steps p.tables e below (T2.setTop (mkF m 4 #[.val (.int p1), .unset, .unset, .unset, .unset] [(.int (own_f1 p1))])) t → Steps p.tables e below (s₁.setTop (entryFrame m #[(.int p1)] maxLocals)) t := fun t kt => pre1 t (st2 _ kt)
  have pre3 : ∀ t, Steps p.tables e below (T2.setTop (mkF m 15 #[.val (.int p1), .val (.int (own_f1 p1)), .unset, .unset, .unset] [(.long (((2 : Int64) * (p1.toInt64)) - (158 : Int64)))])) t → Steps p.tables e below (s₁.setTop (entryFrame m #[(.int p1)] maxLocals)) t := by
    intro t kt
    refine pre2 t ?_
    show Steps p.tables e below (T2.setTop (mkF m 4 #[.val (.int p1), .unset, .unset, .unset, .unset] [(.int (own_f1 p1))])) _
    refine XS.istoreN X2.here hx rfl (hb hby at_4) rfl (l' := #[.val (.int p1), .val (.int (own_f1 p1)), .unset, .unset, .unset]) rfl ?_
    show Steps p.tables e below (T2.setTop (mkF m 5 #[.val (.int p1), .val (.int (own_f1 p1)), .unset, .unset, .unset] [])) _
    refine X2.ldc2Long hx hown (mvT hZ (hw _ (List.mem_of_getElem? (i := 4) rfl))) (g := (mkF m 5 #[.val (.int p1), .val (.int (own_f1 p1)), .unset, .unset, .unset] [])) rfl (hb hby at_5) _ ?_
    show Steps p.tables e below (T2.setTop (mkF m 8 #[.val (.int p1), .val (.int (own_f1 p1)), .unset, .unset, .unset] [(.long (2 : Int64))])) _
    refine XS.iloadN X2.here hx rfl (hb hby at_8) rfl ?_
    show Steps p.tables e below (T2.setTop (mkF m 9 #[.val (.int p1), .val (.int (own_f1 p1)), .unset, .unset, .unset] [(.int p1), (.long (2 : Int64))])) _
    refine XS.i2l X2.here hx rfl (hb hby at_9) rfl ?_
    show Steps p.tables e below (T2.setTop (mkF m 10 #[.val (.int p1), .val (.int (own_f1 p1)), .unset, .unset, .unset] [(.long (p1.toInt64)), (.long (2 : Int64))])) _
    refine XS.lmul X2.here hx rfl (hb hby at_10) rfl ?_
    show Steps p.tables e below (T2.setTop (mkF m 11 #[.val (.int p1), .val (.int (own_f1 p1)), .unset, .unset, .unset] [(.long ((2 : Int64) * (p1.toInt64)))])) _
    refine X2.ldc2Long hx hown (mvT hZ (hw _ (List.mem_of_getElem? (i := 5) rfl))) (g := (mkF m 11 #[.val (.int p1), .val (.int (own_f1 p1)), .unset, .unset, .unset] [(.long ((2 : Int64) * (p1.toInt64)))])) rfl (hb hby at_11) _ ?_
    show Steps p.tables e below (T2.setTop (mkF m 14 #[.val (.int p1), .val (.int (own_f1 p1)), .unset, .unset, .unset] [(.long (158 : Int64)), (.long ((2 : Int64) * (p1.toInt64)))])) _
    refine XS.lsub X2.here hx rfl (hb hby at_14) rfl ?_
    exact kt
  obtain ⟨_, _, ⟨T4, L4, k4, n4⟩, -, X4, ⟨Lc4, hQ4, l4, y4, z4⟩, st4⟩ := Jvm.LawKit.callS X2 hx (y := (⟨"java/lang/Math", "abs", "(J)J"⟩ : MethodName)) hown (mvT hZ (hw _ (List.mem_of_getElem? (i := 6) rfl))) (mvT hZ (hw _ (List.mem_of_getElem? (i := 7) rfl))) (mvT hZ (hw _ (List.mem_of_getElem? (i := 8) rfl))) (mvT hZ (hw _ (List.mem_of_getElem? (i := 9) rfl))) (by decide) (backOf (W := 0) (rm2 l Z a0 hw [] (((2 : Int64) * (p1.toInt64)) - (158 : Int64)) h0 n0) hZ (hw _ (List.mem_of_getElem? (i := 9) rfl)) (hw _ (List.mem_of_getElem? (i := 8) rfl)) (by decide) (by decide)) (g := (mkF m 15 #[.val (.int p1), .val (.int (own_f1 p1)), .unset, .unset, .unset] [(.long (((2 : Int64) * (p1.toInt64)) - (158 : Int64)))])) rfl (by rw [hml]; rfl) (argsL := [(.long (((2 : Int64) * (p1.toInt64)) - (158 : Int64)))]) (rest := []) (lenOf pd_7 rfl) rfl (by show 2 * 0 + _ ≤ _; exact Nat.le_of_eq rfl) (hb hby at_15) (fun _ _ => ⟨rfl, e2, (by decide : 0 + 0 ≤ _), (by decide : 0 + 0 ≤ _)⟩)
  dsimp only [Pt.U, Pt.locs, Pt.cells, Pt.slots] at X4 l4 y4 z4 st4 hQ4
  subst l4 y4 z4
  obtain ⟨rfl, N4q, e4⟩ := hQ4
  have N4 := Fr.app N2 N4q
  have pre4 : ∀ t, Steps p.tables e below (T4.setTop (mkF m 18 #[.val (.int p1), .val (.int (own_f1 p1)), .unset, .unset, .unset] [(.long (own_f2 (((2 : Int64) * (p1.toInt64)) - (158 : Int64))))])) t → Steps p.tables e below (s₁.setTop (entryFrame m #[(.int p1)] maxLocals)) t := fun t kt => pre3 t (st4 _ kt)
  have pre5 : ∀ t, Steps p.tables e below (T4.setTop (mkF m 22 #[.val (.int p1), .val (.int (own_f1 p1)), .unset, .unset, .unset] [(.int (lcmpW (own_f2 (((2 : Int64) * (p1.toInt64)) - (158 : Int64))) (94 : Int64)))])) t → Steps p.tables e below (s₁.setTop (entryFrame m #[(.int p1)] maxLocals)) t := by
    intro t kt
    refine pre4 t ?_
    show Steps p.tables e below (T4.setTop (mkF m 18 #[.val (.int p1), .val (.int (own_f1 p1)), .unset, .unset, .unset] [(.long (own_f2 (((2 : Int64) * (p1.toInt64)) - (158 : Int64))))])) _
    refine X4.ldc2Long hx hown (mvT hZ (hw _ (List.mem_of_getElem? (i := 10) rfl))) (g := (mkF m 18 #[.val (.int p1), .val (.int (own_f1 p1)), .unset, .unset, .unset] [(.long (own_f2 (((2 : Int64) * (p1.toInt64)) - (158 : Int64))))])) rfl (hb hby at_18) _ ?_
    show Steps p.tables e below (T4.setTop (mkF m 21 #[.val (.int p1), .val (.int (own_f1 p1)), .unset, .unset, .unset] [(.long (94 : Int64)), (.long (own_f2 (((2 : Int64) * (p1.toInt64)) - (158 : Int64))))])) _
    refine XS.lcmp X4.here hx rfl (hb hby at_21) rfl ?_
    exact kt
  obtain ⟨v6_0, hv6_0, pre6⟩ : ∃ (v6_0 : Int32), v6_0 = (if (0 : Int32) < (lcmpW (own_f2 (((2 : Int64) * (p1.toInt64)) - (158 : Int64))) (94 : Int64)) then (0 : Int32) else (1 : Int32)) ∧ ∀ t, Steps p.tables e below (T4.setTop (mkF m 30 #[.val (.int p1), .val (.int (own_f1 p1)), .unset, .unset, .unset] [(.int v6_0)])) t → Steps p.tables e below (s₁.setTop (entryFrame m #[(.int p1)] maxLocals)) t := by
    refine ⟨_, rfl, ?_⟩
    intro t kt
    refine pre5 t ?_
    show Steps p.tables e below (T4.setTop (mkF m 22 #[.val (.int p1), .val (.int (own_f1 p1)), .unset, .unset, .unset] [(.int (lcmpW (own_f2 (((2 : Int64) * (p1.toInt64)) - (158 : Int64))) (94 : Int64)))])) _
    by_cases hc22 : (0 : Int32) < (lcmpW (own_f2 (((2 : Int64) * (p1.toInt64)) - (158 : Int64))) (94 : Int64))
    · (try simp only [if_pos hc22] at kt)
      refine XS.ifYes X4.here hx rfl (pc0 := 22) (pc' := 29) rfl (hb hby at_22) rfl ((if0 _ _).trans (tlt hc22).2.2.1) (by decide) (by decide) ?_
      show Steps p.tables e below (T4.setTop (mkF m 29 #[.val (.int p1), .val (.int (own_f1 p1)), .unset, .unset, .unset] [])) _
      refine XS.iconst X4.here hx rfl (hb hby at_29) ?_
      exact kt
    · (try simp only [if_neg hc22] at kt)
      refine XS.ifNo X4.here hx rfl (hb hby at_22) rfl ((if0 _ _).trans (flt hc22).2.2.1) ?_
      show Steps p.tables e below (T4.setTop (mkF m 25 #[.val (.int p1), .val (.int (own_f1 p1)), .unset, .unset, .unset] [])) _
      refine XS.iconst X4.here hx rfl (hb hby at_25) ?_
      show Steps p.tables e below (T4.setTop (mkF m 26 #[.val (.int p1), .val (.int (own_f1 p1)), .unset, .unset, .unset] [(.int (1 : Int32))])) _
      refine XS.goto X4.here hx rfl (pc0 := 26) (pc' := 30) rfl (hb hby at_26) (by decide) (by decide) ?_
      exact kt
  have pre7 : ∀ t, Steps p.tables e below (T4.setTop (mkF m 33 #[.val (.int p1), .val (.int (own_f1 p1)), .val (.int v6_0), .unset, .unset] [(.int (31 : Int32))])) t → Steps p.tables e below (s₁.setTop (entryFrame m #[(.int p1)] maxLocals)) t := by
    intro t kt
    refine pre6 t ?_
    show Steps p.tables e below (T4.setTop (mkF m 30 #[.val (.int p1), .val (.int (own_f1 p1)), .unset, .unset, .unset] [(.int v6_0)])) _
    refine XS.istoreN X4.here hx rfl (hb hby at_30) rfl (l' := #[.val (.int p1), .val (.int (own_f1 p1)), .val (.int v6_0), .unset, .unset]) rfl ?_
    show Steps p.tables e below (T4.setTop (mkF m 31 #[.val (.int p1), .val (.int (own_f1 p1)), .val (.int v6_0), .unset, .unset] [])) _
    refine XS.bipush X4.here hx rfl (hb hby at_31) ?_
    exact kt
  obtain ⟨_, _, ⟨T8, L8, k8, n8⟩, -, X8, ⟨Lc8, hQ8, l8, y8, z8⟩, st8⟩ := Jvm.LawKit.callS X4 hx (y := (⟨"com/example/cormorant/cormorant/job/HttpSyntax", "isPrintable", "(I)Z"⟩ : MethodName)) hown (mvT hZ (hw _ (List.mem_of_getElem? (i := 0) rfl))) (mvT hZ (hw _ (List.mem_of_getElem? (i := 1) rfl))) (mvT hZ (hw _ (List.mem_of_getElem? (i := 2) rfl))) (mvT hZ (hw _ (List.mem_of_getElem? (i := 3) rfl))) (by decide) (backOf (W := 0) (rm1 l Z a0 hw [] (31 : Int32) h0 n0) hZ (hw _ (List.mem_of_getElem? (i := 3) rfl)) (hw _ (List.mem_of_getElem? (i := 2) rfl)) (by decide) (by decide)) (g := (mkF m 33 #[.val (.int p1), .val (.int (own_f1 p1)), .val (.int v6_0), .unset, .unset] [(.int (31 : Int32))])) rfl (by rw [hml]; rfl) (argsL := [(.int (31 : Int32))]) (rest := []) (lenOf pd_1 rfl) rfl (by show 2 * 0 + _ ≤ _; exact Nat.le_of_eq rfl) (hb hby at_33) (fun _ _ => ⟨rfl, e4, (by decide : 0 + 0 ≤ _), (by decide : 0 + 0 ≤ _)⟩)
  dsimp only [Pt.U, Pt.locs, Pt.cells, Pt.slots] at X8 l8 y8 z8 st8 hQ8
  subst l8 y8 z8
  obtain ⟨rfl, N8q, e8⟩ := hQ8
  have N8 := Fr.app N4 N8q
  have pre8 : ∀ t, Steps p.tables e below (T8.setTop (mkF m 36 #[.val (.int p1), .val (.int (own_f1 p1)), .val (.int v6_0), .unset, .unset] [(.int (own_f1 (31 : Int32)))])) t → Steps p.tables e below (s₁.setTop (entryFrame m #[(.int p1)] maxLocals)) t := fun t kt => pre7 t (st8 _ kt)
  have pre9 : ∀ t, Steps p.tables e below (T8.setTop (mkF m 41 #[.val (.int p1), .val (.int (own_f1 p1)), .val (.int v6_0), .unset, .unset] [(.int (32 : Int32))])) t → Steps p.tables e below (s₁.setTop (entryFrame m #[(.int p1)] maxLocals)) t := by
    intro t kt
    refine pre8 t ?_
    show Steps p.tables e below (T8.setTop (mkF m 36 #[.val (.int p1), .val (.int (own_f1 p1)), .val (.int v6_0), .unset, .unset] [(.int (own_f1 (31 : Int32)))])) _
    refine XS.ifNo X8.here hx rfl (hb hby at_36) rfl ((if0 _ _).trans (teq (by decide)).2) ?_
    show Steps p.tables e below (T8.setTop (mkF m 39 #[.val (.int p1), .val (.int (own_f1 p1)), .val (.int v6_0), .unset, .unset] [])) _
    refine XS.bipush X8.here hx rfl (hb hby at_39) ?_
    exact kt
  obtain ⟨_, _, ⟨T10, L10, k10, n10⟩, -, X10, ⟨Lc10, hQ10, l10, y10, z10⟩, st10⟩ := Jvm.LawKit.callS X8 hx (y := (⟨"com/example/cormorant/cormorant/job/HttpSyntax", "isPrintable", "(I)Z"⟩ : MethodName)) hown (mvT hZ (hw _ (List.mem_of_getElem? (i := 0) rfl))) (mvT hZ (hw _ (List.mem_of_getElem? (i := 1) rfl))) (mvT hZ (hw _ (List.mem_of_getElem? (i := 2) rfl))) (mvT hZ (hw _ (List.mem_of_getElem? (i := 3) rfl))) (by decide) (backOf (W := 0) (rm1 l Z a0 hw [] (32 : Int32) h0 n0) hZ (hw _ (List.mem_of_getElem? (i := 3) rfl)) (hw _ (List.mem_of_getElem? (i := 2) rfl)) (by decide) (by decide)) (g := (mkF m 41 #[.val (.int p1), .val (.int (own_f1 p1)), .val (.int v6_0), .unset, .unset] [(.int (32 : Int32))])) rfl (by rw [hml]; rfl) (argsL := [(.int (32 : Int32))]) (rest := []) (lenOf pd_1 rfl) rfl (by show 2 * 0 + _ ≤ _; exact Nat.le_of_eq rfl) (hb hby at_41) (fun _ _ => ⟨rfl, e8, (by decide : 0 + 0 ≤ _), (by decide : 0 + 0 ≤ _)⟩)
  dsimp only [Pt.U, Pt.locs, Pt.cells, Pt.slots] at X10 l10 y10 z10 st10 hQ10
  subst l10 y10 z10
  obtain ⟨rfl, N10q, e10⟩ := hQ10
  have N10 := Fr.app N8 N10q
  have pre10 : ∀ t, Steps p.tables e below (T10.setTop (mkF m 44 #[.val (.int p1), .val (.int (own_f1 p1)), .val (.int v6_0), .unset, .unset] [(.int (own_f1 (32 : Int32)))])) t → Steps p.tables e below (s₁.setTop (entryFrame m #[(.int p1)] maxLocals)) t := fun t kt => pre9 t (st10 _ kt)
  have pre11 : ∀ t, Steps p.tables e below (T10.setTop (mkF m 49 #[.val (.int p1), .val (.int (own_f1 p1)), .val (.int v6_0), .unset, .unset] [(.int (126 : Int32))])) t → Steps p.tables e below (s₁.setTop (entryFrame m #[(.int p1)] maxLocals)) t := by
    intro t kt
    refine pre10 t ?_
    show Steps p.tables e below (T10.setTop (mkF m 44 #[.val (.int p1), .val (.int (own_f1 p1)), .val (.int v6_0), .unset, .unset] [(.int (own_f1 (32 : Int32)))])) _
    refine XS.ifNo X10.here hx rfl (hb hby at_44) rfl ((if0 _ _).trans (feq (by decide)).1) ?_
    show Steps p.tables e below (T10.setTop (mkF m 47 #[.val (.int p1), .val (.int (own_f1 p1)), .val (.int v6_0), .unset, .unset] [])) _
    refine XS.bipush X10.here hx rfl (hb hby at_47) ?_
    exact kt
  obtain ⟨_, _, ⟨T12, L12, k12, n12⟩, -, X12, ⟨Lc12, hQ12, l12, y12, z12⟩, st12⟩ := Jvm.LawKit.callS X10 hx (y := (⟨"com/example/cormorant/cormorant/job/HttpSyntax", "isPrintable", "(I)Z"⟩ : MethodName)) hown (mvT hZ (hw _ (List.mem_of_getElem? (i := 0) rfl))) (mvT hZ (hw _ (List.mem_of_getElem? (i := 1) rfl))) (mvT hZ (hw _ (List.mem_of_getElem? (i := 2) rfl))) (mvT hZ (hw _ (List.mem_of_getElem? (i := 3) rfl))) (by decide) (backOf (W := 0) (rm1 l Z a0 hw [] (126 : Int32) h0 n0) hZ (hw _ (List.mem_of_getElem? (i := 3) rfl)) (hw _ (List.mem_of_getElem? (i := 2) rfl)) (by decide) (by decide)) (g := (mkF m 49 #[.val (.int p1), .val (.int (own_f1 p1)), .val (.int v6_0), .unset, .unset] [(.int (126 : Int32))])) rfl (by rw [hml]; rfl) (argsL := [(.int (126 : Int32))]) (rest := []) (lenOf pd_1 rfl) rfl (by show 2 * 0 + _ ≤ _; exact Nat.le_of_eq rfl) (hb hby at_49) (fun _ _ => ⟨rfl, e10, (by decide : 0 + 0 ≤ _), (by decide : 0 + 0 ≤ _)⟩)
  dsimp only [Pt.U, Pt.locs, Pt.cells, Pt.slots] at X12 l12 y12 z12 st12 hQ12
  subst l12 y12 z12
  obtain ⟨rfl, N12q, e12⟩ := hQ12
  have N12 := Fr.app N10 N12q
  have pre12 : ∀ t, Steps p.tables e below (T12.setTop (mkF m 52 #[.val (.int p1), .val (.int (own_f1 p1)), .val (.int v6_0), .unset, .unset] [(.int (own_f1 (126 : Int32)))])) t → Steps p.tables e below (s₁.setTop (entryFrame m #[(.int p1)] maxLocals)) t := fun t kt => pre11 t (st12 _ kt)
  have pre13 : ∀ t, Steps p.tables e below (T12.setTop (mkF m 57 #[.val (.int p1), .val (.int (own_f1 p1)), .val (.int v6_0), .unset, .unset] [(.int (127 : Int32))])) t → Steps p.tables e below (s₁.setTop (entryFrame m #[(.int p1)] maxLocals)) t := by
    intro t kt
    refine pre12 t ?_
    show Steps p.tables e below (T12.setTop (mkF m 52 #[.val (.int p1), .val (.int (own_f1 p1)), .val (.int v6_0), .unset, .unset] [(.int (own_f1 (126 : Int32)))])) _
    refine XS.ifNo X12.here hx rfl (hb hby at_52) rfl ((if0 _ _).trans (feq (by decide)).1) ?_
    show Steps p.tables e below (T12.setTop (mkF m 55 #[.val (.int p1), .val (.int (own_f1 p1)), .val (.int v6_0), .unset, .unset] [])) _
    refine XS.bipush X12.here hx rfl (hb hby at_55) ?_
    exact kt
  obtain ⟨_, _, ⟨T14, L14, k14, n14⟩, -, X14, ⟨Lc14, hQ14, l14, y14, z14⟩, st14⟩ := Jvm.LawKit.callS X12 hx (y := (⟨"com/example/cormorant/cormorant/job/HttpSyntax", "isPrintable", "(I)Z"⟩ : MethodName)) hown (mvT hZ (hw _ (List.mem_of_getElem? (i := 0) rfl))) (mvT hZ (hw _ (List.mem_of_getElem? (i := 1) rfl))) (mvT hZ (hw _ (List.mem_of_getElem? (i := 2) rfl))) (mvT hZ (hw _ (List.mem_of_getElem? (i := 3) rfl))) (by decide) (backOf (W := 0) (rm1 l Z a0 hw [] (127 : Int32) h0 n0) hZ (hw _ (List.mem_of_getElem? (i := 3) rfl)) (hw _ (List.mem_of_getElem? (i := 2) rfl)) (by decide) (by decide)) (g := (mkF m 57 #[.val (.int p1), .val (.int (own_f1 p1)), .val (.int v6_0), .unset, .unset] [(.int (127 : Int32))])) rfl (by rw [hml]; rfl) (argsL := [(.int (127 : Int32))]) (rest := []) (lenOf pd_1 rfl) rfl (by show 2 * 0 + _ ≤ _; exact Nat.le_of_eq rfl) (hb hby at_57) (fun _ _ => ⟨rfl, e12, (by decide : 0 + 0 ≤ _), (by decide : 0 + 0 ≤ _)⟩)
  dsimp only [Pt.U, Pt.locs, Pt.cells, Pt.slots] at X14 l14 y14 z14 st14 hQ14
  subst l14 y14 z14
  obtain ⟨rfl, N14q, e14⟩ := hQ14
  have N14 := Fr.app N12 N14q
  have pre14 : ∀ t, Steps p.tables e below (T14.setTop (mkF m 60 #[.val (.int p1), .val (.int (own_f1 p1)), .val (.int v6_0), .unset, .unset] [(.int (own_f1 (127 : Int32)))])) t → Steps p.tables e below (s₁.setTop (entryFrame m #[(.int p1)] maxLocals)) t := fun t kt => pre13 t (st14 _ kt)
  have pre15 : ∀ t, Steps p.tables e below (T14.setTop (mkF m 70 #[.val (.int p1), .val (.int (own_f1 p1)), .val (.int v6_0), .val (.int (1 : Int32)), .unset] [(.int p1)])) t → Steps p.tables e below (s₁.setTop (entryFrame m #[(.int p1)] maxLocals)) t := by
    intro t kt
    refine pre14 t ?_
    show Steps p.tables e below (T14.setTop (mkF m 60 #[.val (.int p1), .val (.int (own_f1 p1)), .val (.int v6_0), .unset, .unset] [(.int (own_f1 (127 : Int32)))])) _
    refine XS.ifNo X14.here hx rfl (hb hby at_60) rfl ((if0 _ _).trans (teq (by decide)).2) ?_
    show Steps p.tables e below (T14.setTop (mkF m 63 #[.val (.int p1), .val (.int (own_f1 p1)), .val (.int v6_0), .unset, .unset] [])) _
    refine XS.iconst X14.here hx rfl (hb hby at_63) ?_
    show Steps p.tables e below (T14.setTop (mkF m 64 #[.val (.int p1), .val (.int (own_f1 p1)), .val (.int v6_0), .unset, .unset] [(.int (1 : Int32))])) _
    refine XS.goto X14.here hx rfl (pc0 := 64) (pc' := 68) rfl (hb hby at_64) (by decide) (by decide) ?_
    show Steps p.tables e below (T14.setTop (mkF m 68 #[.val (.int p1), .val (.int (own_f1 p1)), .val (.int v6_0), .unset, .unset] [(.int (1 : Int32))])) _
    refine XS.istoreN X14.here hx rfl (hb hby at_68) rfl (l' := #[.val (.int p1), .val (.int (own_f1 p1)), .val (.int v6_0), .val (.int (1 : Int32)), .unset]) rfl ?_
    show Steps p.tables e below (T14.setTop (mkF m 69 #[.val (.int p1), .val (.int (own_f1 p1)), .val (.int v6_0), .val (.int (1 : Int32)), .unset] [])) _
    refine XS.iloadN X14.here hx rfl (hb hby at_69) rfl ?_
    exact kt
  obtain ⟨_, _, ⟨T16, L16, k16, n16⟩, -, X16, hSq16, hgq16, ⟨Lc16, hQ16, l16, y16, z16, CQ16⟩, st16⟩ := callSS (s := s.setVm s.vm) X14 hx (y := (⟨"com/example/cormorant/cormorant/job/HttpSyntax", "isTokenChar", "(I)Z"⟩ : MethodName)) hown (mvT hZ (hw _ (List.mem_of_getElem? (i := 11) rfl))) (mvT hZ (hw _ (List.mem_of_getElem? (i := 12) rfl))) (mvT hZ (hw _ (List.mem_of_getElem? (i := 2) rfl))) (mvT hZ (hw _ (List.mem_of_getElem? (i := 13) rfl))) (by decide) (backOfSH (s := s) (vm0 := s.vm) (W := 0) (rm3 l Z a0 hw [] p1 cz h0 n0 Z0 SCS (hCS)) hZ (hw _ (List.mem_of_getElem? (i := 13) rfl)) (hw _ (List.mem_of_getElem? (i := 2) rfl)) (by decide) (by decide) hEL CR0.1) (g := (mkF m 70 #[.val (.int p1), .val (.int (own_f1 p1)), .val (.int v6_0), .val (.int (1 : Int32)), .unset] [(.int p1)])) rfl (by rw [hml]; rfl) (argsL := [(.int p1)]) (rest := []) (lenOf pd_1 rfl) rfl (by show 2 * 0 + _ ≤ _; exact Nat.le_of_eq rfl) (hb hby at_70) (fun _ _ => ⟨rfl, e14, (by decide : 0 + 2 ≤ _), (by decide : 0 + 64 ≤ _)⟩)
  dsimp only [Pt.U, Pt.locs, Pt.cells, Pt.slots] at X16 l16 y16 z16 st16 hQ16
  subst l16 y16 z16
  have hS16 := foldS hS0 (by rw [e14]; exact (Nat.zero_le _)) hSq16 hgq16
  have hown := show T16.vm.findClass _ = some m.cls from (by rw [hSq16.1.alike.findClass]; exact hown)
  have hZ := State.Warmed39.trans (t := s.setVm s.vm) hZ hSq16.1
  have CR16 := CR0.trans CQ16
  obtain ⟨rz_16, rfl, N16q, KC16, R16_0⟩ := hQ16
  have N16 := Fr.app N14 N16q
  have Z16 : n0 ≤ T16.heap.size := Nat.le_trans Z0 KC16.1
  have mo16_0 := Nat.le_trans (Nat.zero_le _) KC16.1
  have K16 : Keep h0 T16.heap [] := (Keep.refl h0 []).trans KC16 all0
  have SCS_17 := own_stak SCS KC16 ns0
  have pre16 : ∀ t, Steps p.tables e below (T16.setTop (mkF m 73 #[.val (.int p1), .val (.int (own_f1 p1)), .val (.int v6_0), .val (.int (1 : Int32)), .unset] [(.int rz_16)])) t → Steps p.tables e below (s₁.setTop (entryFrame m #[(.int p1)] maxLocals)) t := fun t kt => pre15 t (st16.trans kt)
  obtain ⟨v18_0, hv18_0, pre18⟩ : ∃ (v18_0 : Int32), v18_0 = (if rz_16 = (0 : Int32) then (1 : Int32) else (if (own_f1 p1) = (0 : Int32) then (0 : Int32) else (1 : Int32))) ∧ ∀ t, Steps p.tables e below (T16.setTop (mkF m 85 #[.val (.int p1), .val (.int (own_f1 p1)), .val (.int v6_0), .val (.int (1 : Int32)), .unset] [(.int v18_0)])) t → Steps p.tables e below (s₁.setTop (entryFrame m #[(.int p1)] maxLocals)) t := by
    refine ⟨_, rfl, ?_⟩
    intro t kt
    refine pre16 t ?_
    show Steps p.tables e below (T16.setTop (mkF m 73 #[.val (.int p1), .val (.int (own_f1 p1)), .val (.int v6_0), .val (.int (1 : Int32)), .unset] [(.int rz_16)])) _
    by_cases hc73 : rz_16 = (0 : Int32)
    · (try simp only [if_pos hc73] at kt)
      refine XS.ifYes X16.here hx rfl (pc0 := 73) (pc' := 80) rfl (hb hby at_73) rfl ((if0 _ _).trans (teq hc73).1) (by decide) (by decide) ?_
      show Steps p.tables e below (T16.setTop (mkF m 80 #[.val (.int p1), .val (.int (own_f1 p1)), .val (.int v6_0), .val (.int (1 : Int32)), .unset] [])) _
      refine XS.iconst X16.here hx rfl (hb hby at_80) ?_
      show Steps p.tables e below (T16.setTop (mkF m 81 #[.val (.int p1), .val (.int (own_f1 p1)), .val (.int v6_0), .val (.int (1 : Int32)), .unset] [(.int (1 : Int32))])) _
      refine XS.goto X16.here hx rfl (pc0 := 81) (pc' := 85) rfl (hb hby at_81) (by decide) (by decide) ?_
      exact kt
    · (try simp only [if_neg hc73] at kt)
      refine XS.ifNo X16.here hx rfl (hb hby at_73) rfl ((if0 _ _).trans (feq hc73).1) ?_
      show Steps p.tables e below (T16.setTop (mkF m 76 #[.val (.int p1), .val (.int (own_f1 p1)), .val (.int v6_0), .val (.int (1 : Int32)), .unset] [])) _
      refine XS.iloadN X16.here hx rfl (hb hby at_76) rfl ?_
      show Steps p.tables e below (T16.setTop (mkF m 77 #[.val (.int p1), .val (.int (own_f1 p1)), .val (.int v6_0), .val (.int (1 : Int32)), .unset] [(.int (own_f1 p1))])) _
      by_cases hc77 : (own_f1 p1) = (0 : Int32)
      · (try simp only [if_pos hc77] at kt)
        refine XS.ifYes X16.here hx rfl (pc0 := 77) (pc' := 84) rfl (hb hby at_77) rfl ((if0 _ _).trans (teq hc77).1) (by decide) (by decide) ?_
        show Steps p.tables e below (T16.setTop (mkF m 84 #[.val (.int p1), .val (.int (own_f1 p1)), .val (.int v6_0), .val (.int (1 : Int32)), .unset] [])) _
        refine XS.iconst X16.here hx rfl (hb hby at_84) ?_
        exact kt
      · (try simp only [if_neg hc77] at kt)
        refine XS.ifNo X16.here hx rfl (hb hby at_77) rfl ((if0 _ _).trans (feq hc77).1) ?_
        show Steps p.tables e below (T16.setTop (mkF m 80 #[.val (.int p1), .val (.int (own_f1 p1)), .val (.int v6_0), .val (.int (1 : Int32)), .unset] [])) _
        refine XS.iconst X16.here hx rfl (hb hby at_80) ?_
        show Steps p.tables e below (T16.setTop (mkF m 81 #[.val (.int p1), .val (.int (own_f1 p1)), .val (.int v6_0), .val (.int (1 : Int32)), .unset] [(.int (1 : Int32))])) _
        refine XS.goto X16.here hx rfl (pc0 := 81) (pc' := 85) rfl (hb hby at_81) (by decide) (by decide) ?_
        exact kt
  have pre19 : ∀ t, Steps p.tables e below (T16.setTop (mkF m 89 #[.val (.int p1), .val (.int (own_f1 p1)), .val (.int v6_0), .val (.int (1 : Int32)), .val (.int v18_0)] [(.int v6_0), (.int (own_f1 p1))])) t → Steps p.tables e below (s₁.setTop (entryFrame m #[(.int p1)] maxLocals)) t := by
    intro t kt
    refine pre18 t ?_
    show Steps p.tables e below (T16.setTop (mkF m 85 #[.val (.int p1), .val (.int (own_f1 p1)), .val (.int v6_0), .val (.int (1 : Int32)), .unset] [(.int v18_0)])) _
    refine XS.istore X16.here hx rfl (hb hby at_85) rfl (l' := #[.val (.int p1), .val (.int (own_f1 p1)), .val (.int v6_0), .val (.int (1 : Int32)), .val (.int v18_0)]) rfl ?_
    show Steps p.tables e below (T16.setTop (mkF m 87 #[.val (.int p1), .val (.int (own_f1 p1)), .val (.int v6_0), .val (.int (1 : Int32)), .val (.int v18_0)] [])) _
    refine XS.iloadN X16.here hx rfl (hb hby at_87) rfl ?_
    show Steps p.tables e below (T16.setTop (mkF m 88 #[.val (.int p1), .val (.int (own_f1 p1)), .val (.int v6_0), .val (.int (1 : Int32)), .val (.int v18_0)] [(.int (own_f1 p1))])) _
    refine XS.iloadN X16.here hx rfl (hb hby at_88) rfl ?_
    exact kt
  obtain ⟨v20_0, hv20_0, pre20⟩ : ∃ (v20_0 : Int32), v20_0 = (if (own_f1 p1) = v6_0 then (if v18_0 = (0 : Int32) then (0 : Int32) else (1 : Int32)) else (0 : Int32)) ∧ ∀ t, Steps p.tables e below (T16.setTop (mkF m 106 #[.val (.int p1), .val (.int (own_f1 p1)), .val (.int v6_0), .val (.int (1 : Int32)), .val (.int v18_0)] [(.int v20_0)])) t → Steps p.tables e below (s₁.setTop (entryFrame m #[(.int p1)] maxLocals)) t := by
    refine ⟨_, rfl, ?_⟩
    intro t kt
    refine pre19 t ?_
    show Steps p.tables e below (T16.setTop (mkF m 89 #[.val (.int p1), .val (.int (own_f1 p1)), .val (.int v6_0), .val (.int (1 : Int32)), .val (.int v18_0)] [(.int v6_0), (.int (own_f1 p1))])) _
    by_cases hc89 : (own_f1 p1) = v6_0
    · (try simp only [if_pos hc89] at kt)
      refine XS.icmpNo X16.here hx rfl (hb hby at_89) rfl (teq hc89).2 ?_
      show Steps p.tables e below (T16.setTop (mkF m 92 #[.val (.int p1), .val (.int (own_f1 p1)), .val (.int v6_0), .val (.int (1 : Int32)), .val (.int v18_0)] [])) _
      refine XS.iloadN X16.here hx rfl (hb hby at_92) rfl ?_
      show Steps p.tables e below (T16.setTop (mkF m 93 #[.val (.int p1), .val (.int (own_f1 p1)), .val (.int v6_0), .val (.int (1 : Int32)), .val (.int v18_0)] [(.int (1 : Int32))])) _
      refine XS.ifNo X16.here hx rfl (hb hby at_93) rfl ((if0 _ _).trans (feq (by decide)).1) ?_
      show Steps p.tables e below (T16.setTop (mkF m 96 #[.val (.int p1), .val (.int (own_f1 p1)), .val (.int v6_0), .val (.int (1 : Int32)), .val (.int v18_0)] [])) _
      refine XS.iload X16.here hx rfl (hb hby at_96) rfl ?_
      show Steps p.tables e below (T16.setTop (mkF m 98 #[.val (.int p1), .val (.int (own_f1 p1)), .val (.int v6_0), .val (.int (1 : Int32)), .val (.int v18_0)] [(.int v18_0)])) _
      by_cases hc98 : v18_0 = (0 : Int32)
      · (try simp only [if_pos hc98] at kt)
        refine XS.ifYes X16.here hx rfl (pc0 := 98) (pc' := 105) rfl (hb hby at_98) rfl ((if0 _ _).trans (teq hc98).1) (by decide) (by decide) ?_
        show Steps p.tables e below (T16.setTop (mkF m 105 #[.val (.int p1), .val (.int (own_f1 p1)), .val (.int v6_0), .val (.int (1 : Int32)), .val (.int v18_0)] [])) _
        refine XS.iconst X16.here hx rfl (hb hby at_105) ?_
        exact kt
      · (try simp only [if_neg hc98] at kt)
        refine XS.ifNo X16.here hx rfl (hb hby at_98) rfl ((if0 _ _).trans (feq hc98).1) ?_
        show Steps p.tables e below (T16.setTop (mkF m 101 #[.val (.int p1), .val (.int (own_f1 p1)), .val (.int v6_0), .val (.int (1 : Int32)), .val (.int v18_0)] [])) _
        refine XS.iconst X16.here hx rfl (hb hby at_101) ?_
        show Steps p.tables e below (T16.setTop (mkF m 102 #[.val (.int p1), .val (.int (own_f1 p1)), .val (.int v6_0), .val (.int (1 : Int32)), .val (.int v18_0)] [(.int (1 : Int32))])) _
        refine XS.goto X16.here hx rfl (pc0 := 102) (pc' := 106) rfl (hb hby at_102) (by decide) (by decide) ?_
        exact kt
    · (try simp only [if_neg hc89] at kt)
      refine XS.icmpYes X16.here hx rfl (pc0 := 89) (pc' := 105) rfl (hb hby at_89) rfl (feq hc89).2 (by decide) (by decide) ?_
      show Steps p.tables e below (T16.setTop (mkF m 105 #[.val (.int p1), .val (.int (own_f1 p1)), .val (.int v6_0), .val (.int (1 : Int32)), .val (.int v18_0)] [])) _
      refine XS.iconst X16.here hx rfl (hb hby at_105) ?_
      exact kt
  have hfin : v20_0 = 1 := by
    have tk := R16_0
    rw [hv20_0, hv18_0, hv6_0, ← own_pe p1, if_pos rfl]
    rcases tk with tk | tk
    · rw [if_pos tk]; rfl
    · rw [own_pr tk.1 tk.2]; split <;> rfl
  obtain ⟨fs, hr, hrun, hended, hEnd⟩ := X16.leaveW (s := s) (vm₁ := T16.vm) hS16 (Nat.le_refl T16.heap.size) (v := some (.int (1 : Int32))) (fun h => by rw [Bd.returns] at h; cases h)
  refine ⟨_, _, pre20 _ ?_, hrun, hended, _, _, rfl, ?_, hEnd.1, hEnd.2.1, hEnd.2.2.1, hEnd.2.2.2.mono (by decide) (by decide)⟩
  · show Steps p.tables e below (T16.setTop (mkF m 106 #[.val (.int p1), .val (.int (own_f1 p1)), .val (.int v6_0), .val (.int (1 : Int32)), .val (.int v18_0)] [(.int v20_0)])) _
    rw [hfin]
    exact retN X16 hx (t := .boolean) Bd.returns (by simp) (hb hby at_106) hr
  · show Q0 n0 _ T16.heap _
    exact ⟨rfl, N16⟩
set_option maxRecDepth 65536 in
set_option maxHeartbeats 40000000 in
theorem comes_1 {Post : Tables → Env → Array Value → State → Outcome → State → Prop} (hpost : ∀ tb e args s v u, (limb_1_1.after args s (.returned v) u = true ∧ limb_1_2.after args s (.returned v) u = true ∧ True) → ReturnedEndW s (.returned v) u (Jvm.fieldLocs frame_1_writes args s ++ Jvm.arrayLocs frame_1_arrays args s ++ Jvm.staticLocs frame_1_statics s) 8 1088 → Post tb e args s (.returned v) u) :
    ArmFor flags0 classFile x code maxLocals ret World_1 tables_1 room_1 Calls_1 rest_1 Pre_1 Post := by
  intro l hfl _ _ p e ha hc hk s m args below hf hA hF happ hP
  obtain ⟨hcalls, hrest, hpre⟩ := hP
  obtain ⟨-, -, -, hnamed, -, -, -, hat⟩ := (Spec.applies_iff hf).mp happ
  obtain ⟨hg, hn⟩ := and_e (Cond.before_iff.mp (show (Jvm.Cond.and given_1 narrow_1).before args s = true from hpre))
  obtain ⟨g1, g2⟩ := and_e hg
  obtain ⟨w0, rfl⟩ : ∃ w0 : Value, args = #[w0] := by
    have hs : args.size = 1 := by simpa [Cond.value, given_1] using g1
    obtain ⟨L⟩ := args
    match L, hs with
    | [w0], _ => exact ⟨w0, rfl⟩
  have hw := fun d (hd : d ∈ tables_1) => atoms_spec (ws := Jvm.Cond.code x code maxLocals ret :: tables_1) hat d (List.mem_cons_of_mem _ hd)
  have hfit : Fit s := fun {y c} hc i hi => by
    obtain ⟨ha, rfl⟩ := Array.getElem?_eq_some_iff.mp hc
    have q := List.all_eq_true.mp ((Array.all_eq_true_iff_forall_mem.mp hF) _ (Array.getElem_mem ha)) i (List.mem_range.mpr hi)
    simpa [Array.getElem?_eq_getElem hi] using q
  obtain ⟨hsets, hown0⟩ := atoms_of _ (rest_1_c_eq ▸ (show rest_1_c.before _ s = true from hrest))
  have hr0 := Cond.before_iff.mp hown0
  obtain ⟨i0, ei0⟩ := is_v g2
  obtain rfl : w0 = (.int i0) := Option.some.inj ei0
  have nz := not_v (Cond.before_iff.mp (hsets _ (List.mem_of_getElem? (i := 2) rfl)))
  obtain ⟨cz, ecz⟩ := is_v (Cond.before_iff.mp (hsets _ (List.mem_of_getElem? (i := 1) rfl)))
  have SCS := Sta.start ecz (Or.inl (hsets _ (List.mem_of_getElem? (i := 0) rfl)))
  have hCS : ¬ (cz = (0 : Int32)) := gotF (Cond.eq_ints ecz (Term.int_eval (0))) nz
  have hCH0 : CHv s EL s.vm s.heap := CHv.start (own_EW hw) (fun p hp => hcalls.1 p hp) (hsets _ (List.mem_of_getElem? (i := 2) rfl)) (hw _ (List.mem_of_getElem? (i := 17) rfl)) (hw _ (List.mem_of_getElem? (i := 16) rfl))
  obtain ⟨n, o, h1, h2, h3, _, L, rfl, ⟨rfl, N⟩, hq⟩ := rm0 l s _ hw tables_1 i0 cz s.heap s.heap.size (Nat.le_refl _) SCS hCS p e ha hc hk s m _ below hf ((Spec.applies_iff_loose hf).mp happ).1 ⟨rfl, State.Warmed39.refl s, rfl, hCH0⟩ trivial
  refine ⟨n, _, h1, h2, h3, hpost _ _ _ _ _ _ ⟨Cond.after_iff.mpr rfl, Cond.after_iff.mpr (eq_i res_at (Term.int_eval (1)) rfl), trivial⟩ ⟨hq.1, hq.2.1, hq.2.2.1, (hq.2.2.2.sift fun y hy => Or.inr (N y hy)).mono (by decide) (by decide)⟩⟩
theorem main_1_1 : Claimed_1_1 := comes_1 fun _ _ _ _ _ _ h hF => ⟨h.1, hF⟩
theorem main_1_2 : Claimed_1_2 := comes_1 fun _ _ _ _ _ _ h hF => ⟨h.2.1, hF⟩
end Jvm.Pilot.@@N@@
namespace Jvm.Pilot.@@N@@
open Jvm Jvm.ClassFile Sem Op Lib Jvm.Free Jvm.Stand Jvm.Pilot.@@N@@.Jvm.D
/-! MADE BY PROGRAM (witnessworld.py) out of the Statement's table words and the real class files: 18 classes; the members and pool entries that the words name. The judged class is class 1, her method 1. -/
namespace start1
open Jvm.ClassFile
def u (s : String) : CpInfo := .utf8 (stringToUtf16 s)
/-- a pool by its gaps: so many unusable entries, then the entry; so many at the end -/
def gap : Nat → List CpInfo → List CpInfo
  | 0, r => r
  | n + 1, r => .unusable :: gap n r
def poolList (es : List (Nat × CpInfo)) (last : Nat) : List CpInfo := es.foldr (fun e r => gap e.1 (e.2 :: r)) (gap last [])
def pool (es : List (Nat × CpInfo)) (last : Nat) : Array CpInfo := ⟨poolList es last⟩
def fileOf (pool : Array CpInfo) (this : Nat) (attrs : Array Attribute := #[]) (ms : Array MethodInfo := #[]) (fl : Nat := 33) (sup : Nat := 0) (ifs : Array Nat := #[]) (fds : Array FieldInfo := #[]) : ClassFile where
  minorVersion := 0
  majorVersion := 65
  constantPool := pool
  accessFlags := fl
  thisClass := this
  superClass := sup
  interfaces := ifs
  fields := fds
  methods := ms
  attributes := attrs
def plain (name : String) (sup : Option ClassId) : Class where
  name := name
  kind := .ordinary
  loader := none
  accessFlags := 33
  super := sup
  interfaces := #[]
  cf := none
  fields := #[]
  methods := #[]
  instanceTypes := #[]
  staticTypes := #[]
  resolved := #[]
  callSites := []
  init := .initialized
  statics := none
  mirror := none

def pool0 : Array CpInfo := pool [(5, u "<init>"), (0, u "()V"), (1, .class_ 10), (1, u "java/lang/Object")] 113

def k0m0 : Method := { name := "<init>", desc := "()V", sig := { parameters := [], returnType := none }, accessFlags := 1, code := none }
/-- java/lang/Object -/
def k0 : Class := { plain "java/lang/Object" none with
  accessFlags := 33
  interfaces := #[]
  cf := some (fileOf pool0 8 #[] #[{ accessFlags := 1, nameIndex := 5, descriptorIndex := 6, attributes := #[] }] 33 0 #[] #[])
  fields := #[]
  methods := #[k0m0]
  instanceTypes := #[]
  staticTypes := #[]
  resolved := Array.replicate 124 none
  statics := none }

def pool1 : Array CpInfo := pool [(2, .class_ 4), (1, u "java/lang/Object"), (0, u "<init>"), (0, u "()V"), (0, .methodref 8 9), (0, .class_ 10), (0, .nameAndType 11 12), (0, u "com/example/cormorant/cormorant/job/HttpSyntax"), (0, u "isPrintable"), (0, u "(I)Z"), (0, .long 2), (1, .long 158), (1, .methodref 18 19), (0, .class_ 20), (0, .nameAndType 21 22), (0, u "java/lang/Math"), (0, u "abs"), (0, u "(J)J"), (0, .long 94), (1, .methodref 8 26), (0, .nameAndType 27 12), (0, u "isTokenChar"), (0, .class_ 29), (0, u "com/example/cormorant/cormorant/job/HttpSyntaxIsPrintablePinLaw"), (2, u "law")] 3

def k1m0 : Method := { name := "<init>", desc := "()V", sig := { parameters := [], returnType := none }, accessFlags := 2, code := none }
def k1c1 : Code := { maxStack := 4, maxLocals := 5, code := code, exceptionTable := #[], attributes := #[] }
def k1m1 : Method := { name := "law", desc := "(I)Z", sig := { parameters := [.int], returnType := some .boolean }, accessFlags := 9, code := some k1c1 }
/-- com/example/cormorant/cormorant/job/HttpSyntaxIsPrintablePinLaw -/
def k1 : Class := { plain "com/example/cormorant/cormorant/job/HttpSyntaxIsPrintablePinLaw" (some 0) with
  accessFlags := 49
  interfaces := #[]
  cf := some (fileOf pool1 28 #[] #[{ accessFlags := 2, nameIndex := 5, descriptorIndex := 6, attributes := #[] }, { accessFlags := 9, nameIndex := 32, descriptorIndex := 12, attributes := #[] }] 49 2 #[] #[])
  fields := #[]
  methods := #[k1m0, k1m1]
  instanceTypes := #[]
  staticTypes := #[]
  resolved := Array.replicate 36 none
  statics := none }

def pool2 : Array CpInfo := pool [(2, .class_ 4), (1, u "java/lang/Object"), (0, u "<init>"), (0, u "()V"), (0, .class_ 8), (0, u "com/example/cormorant/cormorant/job/HttpSyntax"), (0, .string 10), (0, u "!#$%&'*+-.^_`|~"), (0, .methodref 12 13), (0, .class_ 14), (0, .nameAndType 15 16), (0, u "java/lang/String"), (0, u "indexOf"), (0, u "(I)I"), (0, u "TOKEN_SYMBOLS"), (0, u "Ljava/lang/String;"), (3, u "isTokenChar"), (0, u "(I)Z"), (1, u "isPrintable")] 2

def k2m0 : Method := { name := "<init>", desc := "()V", sig := { parameters := [], returnType := none }, accessFlags := 2, code := none }
def k2c1 : Code := { maxStack := 2, maxLocals := 1, code := prog_9_method_2_code, exceptionTable := #[], attributes := #[] }
def k2m1 : Method := { name := "isTokenChar", desc := "(I)Z", sig := { parameters := [.int], returnType := some .boolean }, accessFlags := 9, code := some k2c1 }
def k2c2 : Code := { maxStack := 2, maxLocals := 1, code := prog_9_method_3_code, exceptionTable := #[], attributes := #[] }
def k2m2 : Method := { name := "isPrintable", desc := "(I)Z", sig := { parameters := [.int], returnType := some .boolean }, accessFlags := 9, code := some k2c2 }
/-- com/example/cormorant/cormorant/job/HttpSyntax -/
def k2 : Class := { plain "com/example/cormorant/cormorant/job/HttpSyntax" (some 0) with
  accessFlags := 49
  interfaces := #[]
  cf := some (fileOf pool2 7 #[] #[{ accessFlags := 2, nameIndex := 5, descriptorIndex := 6, attributes := #[] }, { accessFlags := 9, nameIndex := 22, descriptorIndex := 23, attributes := #[] }, { accessFlags := 9, nameIndex := 25, descriptorIndex := 23, attributes := #[] }] 49 2 #[] #[{ accessFlags := 26, nameIndex := 17, descriptorIndex := 18, attributes := #[] }])
  fields := #[{ name := "TOKEN_SYMBOLS", type := (.object "java/lang/String"), accessFlags := 26, slot := 0, constantValue := 0 }]
  methods := #[k2m0, k2m1, k2m2]
  instanceTypes := #[]
  staticTypes := #[(.object "java/lang/String")]
  resolved := Array.replicate 28 none
  statics := none }

def pool3 : Array CpInfo := pool [(1, .class_ 2), (0, u "java/lang/Math"), (1, .class_ 6), (1, u "java/lang/Object"), (0, u "<init>"), (0, u "()V"), (89, .class_ 100), (1, u "java/lang/Math$RandomNumberGeneratorHolder"), (23, u "abs"), (0, u "(J)J"), (46, u "negativeZeroFloatBits"), (0, u "J"), (2, u "negativeZeroDoubleBits"), (21, u "max"), (2, u "min"), (43, u "$assertionsDisabled"), (0, u "Z"), (88, u "(II)I"), (2, u "twoToTheDoubleScaleDown"), (0, u "D"), (4, u "twoToTheDoubleScaleUp"), (9, u "E"), (3, u "PI"), (2, u "TAU"), (2, u "DEGREES_TO_RADIANS"), (0, u "RADIANS_TO_DEGREES")] 94

def k3m0 : Method := { name := "<init>", desc := "()V", sig := { parameters := [], returnType := none }, accessFlags := 2, code := none }
def k3c1 : Code := { maxStack := 4, maxLocals := 2, code := jdk_29_method_61_code, exceptionTable := #[], attributes := #[] }
def k3m1 : Method := { name := "abs", desc := "(J)J", sig := { parameters := [.long], returnType := some .long }, accessFlags := 9, code := some k3c1 }
def k3c2 : Code := { maxStack := 2, maxLocals := 2, code := jdk_29_method_65_code, exceptionTable := #[], attributes := #[] }
def k3m2 : Method := { name := "max", desc := "(II)I", sig := { parameters := [.int, .int], returnType := some .int }, accessFlags := 9, code := some k3c2 }
def k3c3 : Code := { maxStack := 2, maxLocals := 2, code := jdk_29_method_69_code, exceptionTable := #[], attributes := #[] }
def k3m3 : Method := { name := "min", desc := "(II)I", sig := { parameters := [.int, .int], returnType := some .int }, accessFlags := 9, code := some k3c3 }
/-- java/lang/Math -/
def k3 : Class := { plain "java/lang/Math" (some 0) with
  accessFlags := 49
  interfaces := #[]
  cf := some (fileOf pool3 1 #[.nestMembers #[98]] #[{ accessFlags := 2, nameIndex := 7, descriptorIndex := 8, attributes := #[] }, { accessFlags := 9, nameIndex := 124, descriptorIndex := 125, attributes := #[] }, { accessFlags := 9, nameIndex := 198, descriptorIndex := 335, attributes := #[] }, { accessFlags := 9, nameIndex := 201, descriptorIndex := 335, attributes := #[] }] 49 4 #[] #[{ accessFlags := 25, nameIndex := 354, descriptorIndex := 339, attributes := #[] }, { accessFlags := 25, nameIndex := 358, descriptorIndex := 339, attributes := #[] }, { accessFlags := 25, nameIndex := 361, descriptorIndex := 339, attributes := #[] }, { accessFlags := 26, nameIndex := 364, descriptorIndex := 339, attributes := #[] }, { accessFlags := 26, nameIndex := 365, descriptorIndex := 339, attributes := #[] }, { accessFlags := 26, nameIndex := 172, descriptorIndex := 173, attributes := #[] }, { accessFlags := 26, nameIndex := 176, descriptorIndex := 173, attributes := #[] }, { accessFlags := 8, nameIndex := 344, descriptorIndex := 339, attributes := #[] }, { accessFlags := 8, nameIndex := 338, descriptorIndex := 339, attributes := #[] }, { accessFlags := 4120, nameIndex := 245, descriptorIndex := 246, attributes := #[] }])
  fields := #[{ name := "E", type := .double, accessFlags := 25, slot := 0, constantValue := 0 }, { name := "PI", type := .double, accessFlags := 25, slot := 1, constantValue := 0 }, { name := "TAU", type := .double, accessFlags := 25, slot := 2, constantValue := 0 }, { name := "DEGREES_TO_RADIANS", type := .double, accessFlags := 26, slot := 3, constantValue := 0 }, { name := "RADIANS_TO_DEGREES", type := .double, accessFlags := 26, slot := 4, constantValue := 0 }, { name := "negativeZeroFloatBits", type := .long, accessFlags := 26, slot := 5, constantValue := 0 }, { name := "negativeZeroDoubleBits", type := .long, accessFlags := 26, slot := 6, constantValue := 0 }, { name := "twoToTheDoubleScaleUp", type := .double, accessFlags := 8, slot := 7, constantValue := 0 }, { name := "twoToTheDoubleScaleDown", type := .double, accessFlags := 8, slot := 8, constantValue := 0 }, { name := "$assertionsDisabled", type := .boolean, accessFlags := 4120, slot := 9, constantValue := 0 }]
  methods := #[k3m0, k3m1, k3m2, k3m3]
  instanceTypes := #[]
  staticTypes := #[.double, .double, .double, .double, .double, .long, .long, .double, .double, .boolean]
  resolved := Array.replicate 460 none
  statics := none }

def pool4 : Array CpInfo := pool [(1, .class_ 2), (0, u "java/io/Serializable"), (0, .class_ 4), (0, u "java/lang/Object")] 2

/-- java/io/Serializable -/
def k4 : Class := { plain "java/io/Serializable" (some 0) with
  accessFlags := 1537
  interfaces := #[]
  cf := some (fileOf pool4 1 #[] #[] 1537 3 #[] #[])
  fields := #[]
  methods := #[]
  instanceTypes := #[]
  staticTypes := #[]
  resolved := Array.replicate 7 none
  statics := none }

def pool5 : Array CpInfo := pool [(1, .class_ 2), (0, u "java/lang/Comparable"), (0, .class_ 4), (0, u "java/lang/Object")] 7

/-- java/lang/Comparable -/
def k5 : Class := { plain "java/lang/Comparable" (some 0) with
  accessFlags := 1537
  interfaces := #[]
  cf := some (fileOf pool5 1 #[] #[] 1537 3 #[] #[])
  fields := #[]
  methods := #[]
  instanceTypes := #[]
  staticTypes := #[]
  resolved := Array.replicate 12 none
  statics := none }

def pool6 : Array CpInfo := pool [(2, .class_ 4), (1, u "java/lang/CharSequence"), (42, .class_ 48), (0, u "java/lang/CharSequence$1CodePointIterator"), (10, .class_ 60), (0, u "java/lang/CharSequence$1CharIterator"), (5, .class_ 67), (0, u "java/lang/Object")] 63

/-- java/lang/CharSequence -/
def k6 : Class := { plain "java/lang/CharSequence" (some 0) with
  accessFlags := 1537
  interfaces := #[]
  cf := some (fileOf pool6 2 #[.nestMembers #[47, 59]] #[] 1537 66 #[] #[])
  fields := #[]
  methods := #[]
  instanceTypes := #[]
  staticTypes := #[]
  resolved := Array.replicate 131 none
  statics := none }

def pool7 : Array CpInfo := pool [(1, .class_ 2), (0, u "java/lang/constant/Constable"), (0, .class_ 4), (0, u "java/lang/Object")] 6

/-- java/lang/constant/Constable -/
def k7 : Class := { plain "java/lang/constant/Constable" (some 0) with
  accessFlags := 1537
  interfaces := #[]
  cf := some (fileOf pool7 1 #[] #[] 1537 3 #[] #[])
  fields := #[]
  methods := #[]
  instanceTypes := #[]
  staticTypes := #[]
  resolved := Array.replicate 11 none
  statics := none }

def pool8 : Array CpInfo := pool [(1, .class_ 2), (0, u "java/lang/constant/ConstantDesc"), (0, .class_ 4), (0, u "java/lang/Object")] 32

/-- java/lang/constant/ConstantDesc -/
def k8 : Class := { plain "java/lang/constant/ConstantDesc" (some 0) with
  accessFlags := 1537
  interfaces := #[]
  cf := some (fileOf pool8 1 #[] #[] 1537 3 #[] #[])
  fields := #[]
  methods := #[]
  instanceTypes := #[]
  staticTypes := #[]
  resolved := Array.replicate 37 none
  statics := none }

def pool9 : Array CpInfo := pool [(2, .class_ 4), (1, u "java/lang/Object"), (0, u "<init>"), (0, u "()V"), (2, .fieldref 10 11), (0, .class_ 12), (0, .nameAndType 13 14), (0, u "java/lang/String"), (0, u "value"), (0, u "[B"), (0, .fieldref 10 16), (0, .nameAndType 17 18), (0, u "coder"), (0, u "B"), (2, u "hash"), (0, u "I"), (2, u "hashIsZero"), (0, u "Z"), (11, .fieldref 10 39), (0, .nameAndType 40 26), (0, u "COMPACT_STRINGS"), (66, .class_ 109), (1, u "java/lang/StringLatin1"), (32, u "()Z"), (191, u "()I"), (0, .methodref 10 336), (0, .nameAndType 17 337), (0, u "()B"), (154, .methodref 10 493), (0, .nameAndType 494 142), (0, u "isLatin1"), (10, .methodref 10 506), (0, .nameAndType 507 334), (0, u "length"), (67, .class_ 576), (0, u "java/lang/CharSequence"), (22, u "CASE_INSENSITIVE_ORDER"), (0, u "Ljava/util/Comparator;"), (32, .methodref 10 634), (0, .nameAndType 635 636), (0, u "indexOf"), (0, u "(II)I"), (0, .methodref 107 638), (0, .nameAndType 635 639), (0, u "([BIII)I"), (125, u "(I)I"), (335, u "serialPersistentFields"), (0, u "[Ljava/io/ObjectStreamField;"), (0, .class_ 1104), (0, u "java/lang/String$CaseInsensitiveComparator"), (1, .class_ 1107), (0, u "java/io/Serializable"), (0, .class_ 1109), (0, u "java/lang/Comparable"), (0, .class_ 1111), (0, u "java/lang/constant/Constable"), (0, .class_ 1113), (0, u "java/lang/constant/ConstantDesc"), (2, u "serialVersionUID"), (0, u "J"), (3, u "REPL"), (0, u "C"), (2, u "LATIN1"), (1, u "UTF16")] 323

def k9m0 : Method := { name := "<init>", desc := "()V", sig := { parameters := [], returnType := none }, accessFlags := 1, code := none }
def k9c1 : Code := { maxStack := 2, maxLocals := 1, code := jdk_42_method_54_code, exceptionTable := #[], attributes := #[] }
def k9m1 : Method := { name := "length", desc := "()I", sig := { parameters := [], returnType := some .int }, accessFlags := 1, code := some k9c1 }
def k9c2 : Code := { maxStack := 3, maxLocals := 2, code := jdk_42_method_79_code, exceptionTable := #[], attributes := #[] }
def k9m2 : Method := { name := "indexOf", desc := "(I)I", sig := { parameters := [.int], returnType := some .int }, accessFlags := 1, code := some k9c2 }
def k9c3 : Code := { maxStack := 4, maxLocals := 3, code := jdk_42_method_80_code, exceptionTable := #[], attributes := #[] }
def k9m3 : Method := { name := "indexOf", desc := "(II)I", sig := { parameters := [.int, .int], returnType := some .int }, accessFlags := 1, code := some k9c3 }
def k9c4 : Code := { maxStack := 1, maxLocals := 1, code := jdk_42_method_152_code, exceptionTable := #[], attributes := #[] }
def k9m4 : Method := { name := "coder", desc := "()B", sig := { parameters := [], returnType := some .byte }, accessFlags := 0, code := some k9c4 }
def k9c5 : Code := { maxStack := 1, maxLocals := 1, code := jdk_42_method_154_code, exceptionTable := #[], attributes := #[] }
def k9m5 : Method := { name := "isLatin1", desc := "()Z", sig := { parameters := [], returnType := some .boolean }, accessFlags := 0, code := some k9c5 }
/-- java/lang/String -/
def k9 : Class := { plain "java/lang/String" (some 0) with
  accessFlags := 49
  interfaces := #[4, 5, 6, 7, 8]
  cf := some (fileOf pool9 10 #[.nestMembers #[1103]] #[{ accessFlags := 1, nameIndex := 5, descriptorIndex := 6, attributes := #[] }, { accessFlags := 1, nameIndex := 507, descriptorIndex := 334, attributes := #[] }, { accessFlags := 1, nameIndex := 635, descriptorIndex := 765, attributes := #[] }, { accessFlags := 1, nameIndex := 635, descriptorIndex := 636, attributes := #[] }, { accessFlags := 0, nameIndex := 17, descriptorIndex := 337, attributes := #[] }, { accessFlags := 0, nameIndex := 494, descriptorIndex := 142, attributes := #[] }] 49 2 #[1106, 1108, 575, 1110, 1112] #[{ accessFlags := 18, nameIndex := 13, descriptorIndex := 14, attributes := #[] }, { accessFlags := 18, nameIndex := 17, descriptorIndex := 18, attributes := #[] }, { accessFlags := 2, nameIndex := 21, descriptorIndex := 22, attributes := #[] }, { accessFlags := 2, nameIndex := 25, descriptorIndex := 26, attributes := #[] }, { accessFlags := 26, nameIndex := 1116, descriptorIndex := 1117, attributes := #[] }, { accessFlags := 24, nameIndex := 40, descriptorIndex := 26, attributes := #[] }, { accessFlags := 26, nameIndex := 1101, descriptorIndex := 1102, attributes := #[] }, { accessFlags := 26, nameIndex := 1121, descriptorIndex := 1122, attributes := #[] }, { accessFlags := 25, nameIndex := 599, descriptorIndex := 600, attributes := #[] }, { accessFlags := 24, nameIndex := 1125, descriptorIndex := 18, attributes := #[] }, { accessFlags := 24, nameIndex := 1127, descriptorIndex := 18, attributes := #[] }])
  fields := #[{ name := "value", type := (.array .byte), accessFlags := 18, slot := 0, constantValue := 0 }, { name := "coder", type := .byte, accessFlags := 18, slot := 1, constantValue := 0 }, { name := "hash", type := .int, accessFlags := 2, slot := 2, constantValue := 0 }, { name := "hashIsZero", type := .boolean, accessFlags := 2, slot := 3, constantValue := 0 }, { name := "serialVersionUID", type := .long, accessFlags := 26, slot := 0, constantValue := 0 }, { name := "COMPACT_STRINGS", type := .boolean, accessFlags := 24, slot := 1, constantValue := 0 }, { name := "serialPersistentFields", type := (.array (.object "java/io/ObjectStreamField")), accessFlags := 26, slot := 2, constantValue := 0 }, { name := "REPL", type := .char, accessFlags := 26, slot := 3, constantValue := 0 }, { name := "CASE_INSENSITIVE_ORDER", type := (.object "java/util/Comparator"), accessFlags := 25, slot := 4, constantValue := 0 }, { name := "LATIN1", type := .byte, accessFlags := 24, slot := 5, constantValue := 0 }, { name := "UTF16", type := .byte, accessFlags := 24, slot := 6, constantValue := 0 }]
  methods := #[k9m0, k9m1, k9m2, k9m3, k9m4, k9m5]
  instanceTypes := #[(.array .byte), .byte, .int, .boolean]
  staticTypes := #[.long, .boolean, (.array (.object "java/io/ObjectStreamField")), .char, (.object "java/util/Comparator"), .byte, .byte]
  resolved := Array.replicate 1451 none
  statics := some 0 }

def pool10 : Array CpInfo := pool [(4, .class_ 6), (1, u "java/lang/Object"), (0, u "<init>"), (0, u "()V"), (5, .class_ 16), (1, u "java/lang/StringLatin1"), (21, .methodref 39 40), (0, .class_ 41), (0, .nameAndType 42 43), (0, u "java/lang/Math"), (0, u "min"), (0, u "(II)I"), (44, .methodref 14 89), (0, .nameAndType 90 91), (0, u "canEncode"), (0, u "(I)Z"), (0, .methodref 39 93), (0, .nameAndType 94 43), (0, u "max"), (0, .methodref 14 96), (0, .nameAndType 97 98), (0, u "indexOfChar"), (0, u "([BIII)I"), (2, u "indexOf"), (19, u "$assertionsDisabled"), (0, u "Z"), (98, .class_ 223), (1, u "java/lang/StringLatin1$LinesSpliterator"), (166, .class_ 391), (0, u "java/lang/StringLatin1$CharsSpliterator")] 3

def k10m0 : Method := { name := "<init>", desc := "()V", sig := { parameters := [], returnType := none }, accessFlags := 0, code := none }
def k10c1 : Code := { maxStack := 2, maxLocals := 1, code := jdk_43_method_4_code, exceptionTable := #[], attributes := #[] }
def k10m1 : Method := { name := "canEncode", desc := "(I)Z", sig := { parameters := [.int], returnType := some .boolean }, accessFlags := 9, code := some k10c1 }
def k10c2 : Code := { maxStack := 4, maxLocals := 4, code := jdk_43_method_22_code, exceptionTable := #[], attributes := #[] }
def k10m2 : Method := { name := "indexOf", desc := "([BIII)I", sig := { parameters := [(.array .byte), .int, .int, .int], returnType := some .int }, accessFlags := 9, code := some k10c2 }
def k10c3 : Code := { maxStack := 2, maxLocals := 6, code := jdk_43_method_23_code, exceptionTable := #[], attributes := #[] }
def k10m3 : Method := { name := "indexOfChar", desc := "([BIII)I", sig := { parameters := [(.array .byte), .int, .int, .int], returnType := some .int }, accessFlags := 10, code := some k10c3 }
/-- java/lang/StringLatin1 -/
def k10 : Class := { plain "java/lang/StringLatin1" (some 0) with
  accessFlags := 48
  interfaces := #[]
  cf := some (fileOf pool10 14 #[.nestMembers #[390, 221]] #[{ accessFlags := 0, nameIndex := 7, descriptorIndex := 8, attributes := #[] }, { accessFlags := 9, nameIndex := 90, descriptorIndex := 91, attributes := #[] }, { accessFlags := 9, nameIndex := 101, descriptorIndex := 98, attributes := #[] }, { accessFlags := 10, nameIndex := 97, descriptorIndex := 98, attributes := #[] }] 48 4 #[] #[{ accessFlags := 4120, nameIndex := 121, descriptorIndex := 122, attributes := #[] }])
  fields := #[{ name := "$assertionsDisabled", type := .boolean, accessFlags := 4120, slot := 0, constantValue := 0 }]
  methods := #[k10m0, k10m1, k10m2, k10m3]
  instanceTypes := #[]
  staticTypes := #[.boolean]
  resolved := Array.replicate 395 none
  statics := none }

def pool11 : Array CpInfo := pool [(2, .class_ 4), (1, u "java/lang/Object"), (0, u "<init>"), (0, u "()V"), (17, .class_ 26), (1, u "jdk/internal/util/Preconditions"), (28, .class_ 56), (0, u "jdk/internal/util/Preconditions$4"), (57, .class_ 115), (0, u "jdk/internal/util/Preconditions$1"), (7, u "SIOOBE_FORMATTER"), (0, u "Ljava/util/function/BiFunction;"), (0, .class_ 126), (0, u "jdk/internal/util/Preconditions$2"), (3, u "AIOOBE_FORMATTER"), (0, .class_ 132), (0, u "jdk/internal/util/Preconditions$3"), (3, u "IOOBE_FORMATTER")] 57

def k11m0 : Method := { name := "<init>", desc := "()V", sig := { parameters := [], returnType := none }, accessFlags := 1, code := none }
/-- jdk/internal/util/Preconditions -/
def k11 : Class := { plain "jdk/internal/util/Preconditions" (some 0) with
  accessFlags := 33
  interfaces := #[]
  cf := some (fileOf pool11 24 #[.nestMembers #[55, 131, 125, 114]] #[{ accessFlags := 1, nameIndex := 5, descriptorIndex := 6, attributes := #[] }] 33 2 #[] #[{ accessFlags := 25, nameIndex := 123, descriptorIndex := 124, attributes := #[] }, { accessFlags := 25, nameIndex := 130, descriptorIndex := 124, attributes := #[] }, { accessFlags := 25, nameIndex := 136, descriptorIndex := 124, attributes := #[] }])
  fields := #[{ name := "SIOOBE_FORMATTER", type := (.object "java/util/function/BiFunction"), accessFlags := 25, slot := 0, constantValue := 0 }, { name := "AIOOBE_FORMATTER", type := (.object "java/util/function/BiFunction"), accessFlags := 25, slot := 1, constantValue := 0 }, { name := "IOOBE_FORMATTER", type := (.object "java/util/function/BiFunction"), accessFlags := 25, slot := 2, constantValue := 0 }]
  methods := #[k11m0]
  instanceTypes := #[]
  staticTypes := #[(.object "java/util/function/BiFunction"), (.object "java/util/function/BiFunction"), (.object "java/util/function/BiFunction")]
  resolved := Array.replicate 194 none
  statics := some 1 }

def pool12 : Array CpInfo := pool [(9, u "<init>"), (6, .class_ 18), (1, u "java/lang/Object"), (0, u "()V"), (1, .class_ 23), (1, u "jdk/internal/util/ArraysSupport"), (0, u "LOG2_ARRAY_LONG_INDEX_SCALE"), (0, u "I"), (2, u "U"), (0, u "Ljdk/internal/misc/Unsafe;"), (8, u "BIG_ENDIAN"), (0, u "Z"), (8, u "LOG2_BYTE_BIT_SIZE"), (4, u "LOG2_ARRAY_INT_INDEX_SCALE"), (54, u "JLA"), (0, u "Ljdk/internal/access/JavaLangAccess;"), (11, u "LOG2_ARRAY_BOOLEAN_INDEX_SCALE"), (9, u "LOG2_ARRAY_BYTE_INDEX_SCALE"), (5, u "LOG2_ARRAY_CHAR_INDEX_SCALE"), (5, u "LOG2_ARRAY_SHORT_INDEX_SCALE"), (18, u "LOG2_ARRAY_FLOAT_INDEX_SCALE"), (24, u "LOG2_ARRAY_DOUBLE_INDEX_SCALE"), (89, u "T_BOOLEAN"), (2, u "T_CHAR"), (1, u "T_FLOAT"), (1, u "T_DOUBLE"), (1, u "T_BYTE"), (1, u "T_SHORT"), (1, u "T_INT"), (1, u "T_LONG"), (1, u "SOFT_MAX_ARRAY_LENGTH")] 83

def k12m0 : Method := { name := "<init>", desc := "()V", sig := { parameters := [], returnType := none }, accessFlags := 2, code := none }
/-- jdk/internal/util/ArraysSupport -/
def k12 : Class := { plain "jdk/internal/util/ArraysSupport" (some 0) with
  accessFlags := 33
  interfaces := #[]
  cf := some (fileOf pool12 21 #[] #[{ accessFlags := 2, nameIndex := 9, descriptorIndex := 19, attributes := #[] }] 33 16 #[] #[{ accessFlags := 24, nameIndex := 28, descriptorIndex := 29, attributes := #[] }, { accessFlags := 26, nameIndex := 38, descriptorIndex := 39, attributes := #[] }, { accessFlags := 25, nameIndex := 121, descriptorIndex := 25, attributes := #[] }, { accessFlags := 25, nameIndex := 131, descriptorIndex := 25, attributes := #[] }, { accessFlags := 25, nameIndex := 137, descriptorIndex := 25, attributes := #[] }, { accessFlags := 25, nameIndex := 143, descriptorIndex := 25, attributes := #[] }, { accessFlags := 25, nameIndex := 53, descriptorIndex := 25, attributes := #[] }, { accessFlags := 25, nameIndex := 24, descriptorIndex := 25, attributes := #[] }, { accessFlags := 25, nameIndex := 162, descriptorIndex := 25, attributes := #[] }, { accessFlags := 25, nameIndex := 187, descriptorIndex := 25, attributes := #[] }, { accessFlags := 26, nameIndex := 48, descriptorIndex := 25, attributes := #[] }, { accessFlags := 25, nameIndex := 277, descriptorIndex := 25, attributes := #[] }, { accessFlags := 25, nameIndex := 280, descriptorIndex := 25, attributes := #[] }, { accessFlags := 25, nameIndex := 282, descriptorIndex := 25, attributes := #[] }, { accessFlags := 25, nameIndex := 284, descriptorIndex := 25, attributes := #[] }, { accessFlags := 25, nameIndex := 286, descriptorIndex := 25, attributes := #[] }, { accessFlags := 25, nameIndex := 288, descriptorIndex := 25, attributes := #[] }, { accessFlags := 25, nameIndex := 290, descriptorIndex := 25, attributes := #[] }, { accessFlags := 25, nameIndex := 292, descriptorIndex := 25, attributes := #[] }, { accessFlags := 26, nameIndex := 108, descriptorIndex := 109, attributes := #[] }, { accessFlags := 25, nameIndex := 294, descriptorIndex := 25, attributes := #[] }])
  fields := #[{ name := "U", type := (.object "jdk/internal/misc/Unsafe"), accessFlags := 24, slot := 0, constantValue := 0 }, { name := "BIG_ENDIAN", type := .boolean, accessFlags := 26, slot := 1, constantValue := 0 }, { name := "LOG2_ARRAY_BOOLEAN_INDEX_SCALE", type := .int, accessFlags := 25, slot := 2, constantValue := 0 }, { name := "LOG2_ARRAY_BYTE_INDEX_SCALE", type := .int, accessFlags := 25, slot := 3, constantValue := 0 }, { name := "LOG2_ARRAY_CHAR_INDEX_SCALE", type := .int, accessFlags := 25, slot := 4, constantValue := 0 }, { name := "LOG2_ARRAY_SHORT_INDEX_SCALE", type := .int, accessFlags := 25, slot := 5, constantValue := 0 }, { name := "LOG2_ARRAY_INT_INDEX_SCALE", type := .int, accessFlags := 25, slot := 6, constantValue := 0 }, { name := "LOG2_ARRAY_LONG_INDEX_SCALE", type := .int, accessFlags := 25, slot := 7, constantValue := 0 }, { name := "LOG2_ARRAY_FLOAT_INDEX_SCALE", type := .int, accessFlags := 25, slot := 8, constantValue := 0 }, { name := "LOG2_ARRAY_DOUBLE_INDEX_SCALE", type := .int, accessFlags := 25, slot := 9, constantValue := 0 }, { name := "LOG2_BYTE_BIT_SIZE", type := .int, accessFlags := 26, slot := 10, constantValue := 0 }, { name := "T_BOOLEAN", type := .int, accessFlags := 25, slot := 11, constantValue := 0 }, { name := "T_CHAR", type := .int, accessFlags := 25, slot := 12, constantValue := 0 }, { name := "T_FLOAT", type := .int, accessFlags := 25, slot := 13, constantValue := 0 }, { name := "T_DOUBLE", type := .int, accessFlags := 25, slot := 14, constantValue := 0 }, { name := "T_BYTE", type := .int, accessFlags := 25, slot := 15, constantValue := 0 }, { name := "T_SHORT", type := .int, accessFlags := 25, slot := 16, constantValue := 0 }, { name := "T_INT", type := .int, accessFlags := 25, slot := 17, constantValue := 0 }, { name := "T_LONG", type := .int, accessFlags := 25, slot := 18, constantValue := 0 }, { name := "JLA", type := (.object "jdk/internal/access/JavaLangAccess"), accessFlags := 26, slot := 19, constantValue := 0 }, { name := "SOFT_MAX_ARRAY_LENGTH", type := .int, accessFlags := 25, slot := 20, constantValue := 0 }]
  methods := #[k12m0]
  instanceTypes := #[]
  staticTypes := #[(.object "jdk/internal/misc/Unsafe"), .boolean, .int, .int, .int, .int, .int, .int, .int, .int, .int, .int, .int, .int, .int, .int, .int, .int, .int, (.object "jdk/internal/access/JavaLangAccess"), .int]
  resolved := Array.replicate 378 none
  statics := none }

def pool13 : Array CpInfo := pool [(1, u "java/lang/Cloneable"), (0, .class_ 1), (0, u "java/lang/Object"), (0, .class_ 3)] 3

/-- java/lang/Cloneable -/
def k13 : Class := { plain "java/lang/Cloneable" (some 0) with
  accessFlags := 1537
  interfaces := #[]
  cf := some (fileOf pool13 2 #[] #[] 1537 4 #[] #[])
  fields := #[]
  methods := #[]
  instanceTypes := #[]
  staticTypes := #[]
  resolved := Array.replicate 8 none
  statics := none }

/-- the primitive byte -/
def k14 : Class := { plain "byte" none with kind := .primitive 'B', accessFlags := 0x411 }
/-- [B -/
def k15 : Class := { plain "[B" (some 0) with kind := .array 14 .byte, interfaces := #[13, 4], accessFlags := 1041 }

/-- the primitive int -/
def k16 : Class := { plain "int" none with kind := .primitive 'I', accessFlags := 0x411 }
/-- [I -/
def k17 : Class := { plain "[I" (some 0) with kind := .array 16 .int, interfaces := #[13, 4], accessFlags := 1041 }

def heap : Heap := #[{ cls := 9, slots := #[.long 0, .int 1, .null, .int 0, .null, .int 0, .int 0], vm := .statics 9 },
  { cls := 11, slots := #[.null, .null, .null], vm := .statics 11 }]
def classes : Array Class := #[k0, k1, k2, k3, k4, k5, k6, k7, k8, k9, k10, k11, k12, k13, k14, k15, k16, k17]
def interned : List (Array UInt16 × Addr) := []
def slotsUsed : Nat := 10
def theMethod : MethodId := ⟨1, 1⟩
def args0 : Array Value := #[.int 5]
def aboutOver (below : List Frame) : State where
  vm := { classes := classes, interned := interned.toArray }
  heap := heap
  slotsUsed := slotsUsed
  threads := #[{ frames := .invoking theMethod args0 :: below }]
def below0 : List Frame := [.native { method := ⟨0, 0⟩, args := #[] }]
def about1 : State := aboutOver below0
def p0 : Program := .bare "" "" ""
def e0 : Env := launch0.env 0 0 0
theorem w_frames : about1.frames = Frame.invoking theMethod args0 :: below0 := rfl
set_option maxRecDepth 65536 in
theorem w_args : argsFit about1.vm theMethod args0 = true := by decide +kernel
set_option maxRecDepth 65536 in
theorem w_heap : heapFits about1 = true := by decide +kernel
set_option maxRecDepth 65536 in
theorem w_runnable : about1.curStatus? = some .runnable := by decide +kernel
set_option maxRecDepth 65536 in
theorem w_alone : about1.alone = true := by decide +kernel
set_option maxRecDepth 65536 in
theorem w_named : about1.methodNamed? x = some theMethod := by decide +kernel
set_option maxRecDepth 65536 in
theorem w_hears : about1.hears theMethod below0 = true := by decide +kernel
set_option maxRecDepth 65536 in
theorem w_ripe : about1.ripe theMethod args0 below0 = true := by decide +kernel
theorem w_running : about1.status = .running := rfl
set_option maxRecDepth 65536 in
theorem w_room : about1.hasRoom e0.platform room_1 = true :=
  launch0.hasRoom_least _ room_1 (by decide +kernel) (by decide +kernel) (by decide +kernel) (by decide +kernel) (by decide +kernel) (by decide +kernel)
theorem allAtoms_all (ts : List Jvm.Cond) (a : Array Jvm.Value) (st : Jvm.State) : (allAtoms ts).before a st = ts.all (fun c => c.before a st) := by
  induction ts with
  | nil => rfl
  | cons c t ih =>
    show (Jvm.Cond.and c (allAtoms t)).before a st = _
    rw [Jvm.Cond.before_and, ih, List.all_cons]
def words1 : List Jvm.Cond := Jvm.Cond.code x code maxLocals ret :: tables_1
/-- a 'code' word, met by the world's own term for the bytes: nothing is compared byte by byte -/
theorem code_word {y : MethodName} {bytes : ByteArray} {mx : Nat} {rt : Option FieldType} {a : Array Value} {s : State} {m : MethodId} {meth : Method} {c : Code} (h1 : s.methodNamed? y = some m) (h2 : s.vm.method? m = some meth) (h3 : meth.code = some c) (h4 : c.code = bytes)
    (h5 : (c.maxLocals == mx && c.exceptionTable.isEmpty && decide (c.maxStack ≤ mostOperands) && decide (meth.sig.returnType = rt) && !meth.locks && decide (parseMethodDescriptor y.desc = some meth.sig)) = true) : (Jvm.Cond.code y bytes mx rt).before a s = true := by
  simp only [Bool.and_eq_true, beq_iff_eq, Bool.not_eq_true', decide_eq_true_eq] at h5
  obtain ⟨⟨⟨⟨⟨g1, g2⟩, g3⟩, g4⟩, g5⟩, g6⟩ := h5
  simp [Cond.before, Cond.holds, Cond.value, h1, h2, h3, h4, g1, g2, g3, g4, g5, g6]
def isCode : Jvm.Cond → Bool
  | .code _ _ _ _ => true
  | _ => false
theorem all_split {L : List Jvm.Cond} {P : Jvm.Cond → Bool} (h1 : L.all (fun c => isCode c || P c) = true) (h2 : ∀ c ∈ L.filter isCode, P c = true) : L.all P = true := by
  refine List.all_eq_true.mpr fun c hc => ?_
  have h := List.all_eq_true.mp h1 c hc
  rcases Bool.eq_false_or_eq_true (isCode c) with hi | hi
  · exact h2 c (List.mem_filter.mpr ⟨hc, hi⟩)
  · simpa [hi] using h
set_option maxRecDepth 65536 in
theorem w_c0 : (Jvm.Cond.code x code maxLocals ret).before args0 about1 = true := code_word (m := ⟨1, 1⟩) (meth := k1m1) (c := k1c1) (by decide +kernel) rfl rfl rfl (by decide +kernel)
set_option maxRecDepth 65536 in
theorem w_c1 : (Jvm.Cond.code ({ cls := "com/example/cormorant/cormorant/job/HttpSyntax", name := "isPrintable", desc := "(I)Z" } : Jvm.MethodName) prog_9_method_3_code (1 : Nat) (Option.some Jvm.ClassFile.FieldType.boolean)).before args0 about1 = true := code_word (m := ⟨2, 2⟩) (meth := k2m2) (c := k2c2) (by decide +kernel) rfl rfl rfl (by decide +kernel)
set_option maxRecDepth 65536 in
theorem w_c2 : (Jvm.Cond.code ({ cls := "java/lang/Math", name := "abs", desc := "(J)J" } : Jvm.MethodName) jdk_29_method_61_code (2 : Nat) (Option.some Jvm.ClassFile.FieldType.long)).before args0 about1 = true := code_word (m := ⟨3, 1⟩) (meth := k3m1) (c := k3c1) (by decide +kernel) rfl rfl rfl (by decide +kernel)
set_option maxRecDepth 65536 in
theorem w_c3 : (Jvm.Cond.code ({ cls := "com/example/cormorant/cormorant/job/HttpSyntax", name := "isTokenChar", desc := "(I)Z" } : Jvm.MethodName) prog_9_method_2_code (1 : Nat) (Option.some Jvm.ClassFile.FieldType.boolean)).before args0 about1 = true := code_word (m := ⟨2, 1⟩) (meth := k2m1) (c := k2c1) (by decide +kernel) rfl rfl rfl (by decide +kernel)
set_option maxRecDepth 65536 in
theorem w_c4 : (Jvm.Cond.code ({ cls := "java/lang/String", name := "indexOf", desc := "(I)I" } : Jvm.MethodName) jdk_42_method_79_code (2 : Nat) (Option.some Jvm.ClassFile.FieldType.int)).before args0 about1 = true := code_word (m := ⟨9, 2⟩) (meth := k9m2) (c := k9c2) (by decide +kernel) rfl rfl rfl (by decide +kernel)
set_option maxRecDepth 65536 in
theorem w_c5 : (Jvm.Cond.code ({ cls := "java/lang/String", name := "indexOf", desc := "(II)I" } : Jvm.MethodName) jdk_42_method_80_code (3 : Nat) (Option.some Jvm.ClassFile.FieldType.int)).before args0 about1 = true := code_word (m := ⟨9, 3⟩) (meth := k9m3) (c := k9c3) (by decide +kernel) rfl rfl rfl (by decide +kernel)
set_option maxRecDepth 65536 in
theorem w_c6 : (Jvm.Cond.code ({ cls := "java/lang/String", name := "isLatin1", desc := "()Z" } : Jvm.MethodName) jdk_42_method_154_code (1 : Nat) (Option.some Jvm.ClassFile.FieldType.boolean)).before args0 about1 = true := code_word (m := ⟨9, 5⟩) (meth := k9m5) (c := k9c5) (by decide +kernel) rfl rfl rfl (by decide +kernel)
set_option maxRecDepth 65536 in
theorem w_c7 : (Jvm.Cond.code ({ cls := "java/lang/String", name := "length", desc := "()I" } : Jvm.MethodName) jdk_42_method_54_code (1 : Nat) (Option.some Jvm.ClassFile.FieldType.int)).before args0 about1 = true := code_word (m := ⟨9, 1⟩) (meth := k9m1) (c := k9c1) (by decide +kernel) rfl rfl rfl (by decide +kernel)
set_option maxRecDepth 65536 in
theorem w_c8 : (Jvm.Cond.code ({ cls := "java/lang/String", name := "coder", desc := "()B" } : Jvm.MethodName) jdk_42_method_152_code (1 : Nat) (Option.some Jvm.ClassFile.FieldType.byte)).before args0 about1 = true := code_word (m := ⟨9, 4⟩) (meth := k9m4) (c := k9c4) (by decide +kernel) rfl rfl rfl (by decide +kernel)
set_option maxRecDepth 65536 in
theorem w_c9 : (Jvm.Cond.code ({ cls := "java/lang/StringLatin1", name := "indexOf", desc := "([BIII)I" } : Jvm.MethodName) jdk_43_method_22_code (4 : Nat) (Option.some Jvm.ClassFile.FieldType.int)).before args0 about1 = true := code_word (m := ⟨10, 2⟩) (meth := k10m2) (c := k10c2) (by decide +kernel) rfl rfl rfl (by decide +kernel)
set_option maxRecDepth 65536 in
theorem w_c10 : (Jvm.Cond.code ({ cls := "java/lang/StringLatin1", name := "canEncode", desc := "(I)Z" } : Jvm.MethodName) jdk_43_method_4_code (1 : Nat) (Option.some Jvm.ClassFile.FieldType.boolean)).before args0 about1 = true := code_word (m := ⟨10, 1⟩) (meth := k10m1) (c := k10c1) (by decide +kernel) rfl rfl rfl (by decide +kernel)
set_option maxRecDepth 65536 in
theorem w_c11 : (Jvm.Cond.code ({ cls := "java/lang/Math", name := "max", desc := "(II)I" } : Jvm.MethodName) jdk_29_method_65_code (2 : Nat) (Option.some Jvm.ClassFile.FieldType.int)).before args0 about1 = true := code_word (m := ⟨3, 2⟩) (meth := k3m2) (c := k3c2) (by decide +kernel) rfl rfl rfl (by decide +kernel)
set_option maxRecDepth 65536 in
theorem w_c12 : (Jvm.Cond.code ({ cls := "java/lang/Math", name := "min", desc := "(II)I" } : Jvm.MethodName) jdk_29_method_69_code (2 : Nat) (Option.some Jvm.ClassFile.FieldType.int)).before args0 about1 = true := code_word (m := ⟨3, 3⟩) (meth := k3m3) (c := k3c3) (by decide +kernel) rfl rfl rfl (by decide +kernel)
set_option maxRecDepth 65536 in
theorem w_c13 : (Jvm.Cond.code ({ cls := "java/lang/StringLatin1", name := "indexOfChar", desc := "([BIII)I" } : Jvm.MethodName) jdk_43_method_23_code (6 : Nat) (Option.some Jvm.ClassFile.FieldType.int)).before args0 about1 = true := code_word (m := ⟨10, 3⟩) (meth := k10m3) (c := k10c3) (by decide +kernel) rfl rfl rfl (by decide +kernel)
def codes1 : List Jvm.Cond := [Jvm.Cond.code x code maxLocals ret, Jvm.Cond.code ({ cls := "com/example/cormorant/cormorant/job/HttpSyntax", name := "isPrintable", desc := "(I)Z" } : Jvm.MethodName) prog_9_method_3_code (1 : Nat) (Option.some Jvm.ClassFile.FieldType.boolean), Jvm.Cond.code ({ cls := "java/lang/Math", name := "abs", desc := "(J)J" } : Jvm.MethodName) jdk_29_method_61_code (2 : Nat) (Option.some Jvm.ClassFile.FieldType.long), Jvm.Cond.code ({ cls := "com/example/cormorant/cormorant/job/HttpSyntax", name := "isTokenChar", desc := "(I)Z" } : Jvm.MethodName) prog_9_method_2_code (1 : Nat) (Option.some Jvm.ClassFile.FieldType.boolean), Jvm.Cond.code ({ cls := "java/lang/String", name := "indexOf", desc := "(I)I" } : Jvm.MethodName) jdk_42_method_79_code (2 : Nat) (Option.some Jvm.ClassFile.FieldType.int), Jvm.Cond.code ({ cls := "java/lang/String", name := "indexOf", desc := "(II)I" } : Jvm.MethodName) jdk_42_method_80_code (3 : Nat) (Option.some Jvm.ClassFile.FieldType.int), Jvm.Cond.code ({ cls := "java/lang/String", name := "isLatin1", desc := "()Z" } : Jvm.MethodName) jdk_42_method_154_code (1 : Nat) (Option.some Jvm.ClassFile.FieldType.boolean), Jvm.Cond.code ({ cls := "java/lang/String", name := "length", desc := "()I" } : Jvm.MethodName) jdk_42_method_54_code (1 : Nat) (Option.some Jvm.ClassFile.FieldType.int), Jvm.Cond.code ({ cls := "java/lang/String", name := "coder", desc := "()B" } : Jvm.MethodName) jdk_42_method_152_code (1 : Nat) (Option.some Jvm.ClassFile.FieldType.byte), Jvm.Cond.code ({ cls := "java/lang/StringLatin1", name := "indexOf", desc := "([BIII)I" } : Jvm.MethodName) jdk_43_method_22_code (4 : Nat) (Option.some Jvm.ClassFile.FieldType.int), Jvm.Cond.code ({ cls := "java/lang/StringLatin1", name := "canEncode", desc := "(I)Z" } : Jvm.MethodName) jdk_43_method_4_code (1 : Nat) (Option.some Jvm.ClassFile.FieldType.boolean), Jvm.Cond.code ({ cls := "java/lang/Math", name := "max", desc := "(II)I" } : Jvm.MethodName) jdk_29_method_65_code (2 : Nat) (Option.some Jvm.ClassFile.FieldType.int), Jvm.Cond.code ({ cls := "java/lang/Math", name := "min", desc := "(II)I" } : Jvm.MethodName) jdk_29_method_69_code (2 : Nat) (Option.some Jvm.ClassFile.FieldType.int), Jvm.Cond.code ({ cls := "java/lang/StringLatin1", name := "indexOfChar", desc := "([BIII)I" } : Jvm.MethodName) jdk_43_method_23_code (6 : Nat) (Option.some Jvm.ClassFile.FieldType.int)]
set_option maxRecDepth 65536 in
theorem codes_eq : words1.filter isCode = codes1 := rfl
theorem w_codes : ∀ c ∈ words1.filter isCode, c.before args0 about1 = true := by
  rw [codes_eq]
  intro c hc
  simp only [codes1, List.mem_cons, List.not_mem_nil, or_false] at hc
  rcases hc with rfl | rfl | rfl | rfl | rfl | rfl | rfl | rfl | rfl | rfl | rfl | rfl | rfl | rfl
  · exact w_c0
  · exact w_c1
  · exact w_c2
  · exact w_c3
  · exact w_c4
  · exact w_c5
  · exact w_c6
  · exact w_c7
  · exact w_c8
  · exact w_c9
  · exact w_c10
  · exact w_c11
  · exact w_c12
  · exact w_c13
set_option maxRecDepth 65536 in
theorem w_t1 : (words1.take 24).all (fun c => isCode c || c.before args0 about1) = true := by decide +kernel
set_option maxRecDepth 65536 in
theorem w_t2 : ((words1.drop 24).take 24).all (fun c => isCode c || c.before args0 about1) = true := by decide +kernel
set_option maxRecDepth 65536 in
theorem w_t3 : ((words1.drop 24).drop 24).all (fun c => isCode c || c.before args0 about1) = true := by decide +kernel
theorem w_tables : (allAtoms (Jvm.Cond.code x code maxLocals ret :: tables_1)).before args0 about1 = true := by
  rw [allAtoms_all]
  show words1.all (fun c => c.before args0 about1) = true
  refine all_split ?_ w_codes
  rw [← List.take_append_drop 24 words1, List.all_append, w_t1, ← List.take_append_drop 24 (words1.drop 24), List.all_append, w_t2, w_t3]
  rfl
set_option maxRecDepth 65536 in
theorem w_rest : rest_1_c.before args0 about1 = true := by decide +kernel
set_option maxRecDepth 65536 in
theorem w_case : (Jvm.Cond.and given_1 narrow_1).before args0 about1 = true := by decide +kernel
set_option maxRecDepth 65536 in
theorem w_consts : constsHeld consts_1 about1 := Jvm.Lit.constsHeldB_iff.mp (by decide +kernel)
theorem w_applies : (headSpec (Jvm.Cond.code x code maxLocals ret :: tables_1) room_1).applies x e0.platform about1 = true :=
  (Spec.applies_iff w_frames).mpr ⟨w_running, w_runnable, w_alone, w_named, w_hears, w_ripe, w_room, w_tables⟩
theorem atStart : AtStart classFile x code maxLocals ret World_1 tables_1 room_1 Calls_1 rest_1 Pre_1 launch0 p0 e0 about1 theMethod args0 below0 :=
  ⟨lists_1, trivial, launch0.admits_env _ _ _, launch0.least_env, fairChoices_fair.cas, fairChoices_fair.clock, w_frames, w_args, w_heap, w_applies, ⟨w_consts, trivial⟩, w_rest, w_case⟩
end start1
theorem witness_1 : WitnessClaimed_1 := ⟨start1.p0, start1.e0, start1.about1, start1.theMethod, start1.args0, start1.below0, start1.atStart⟩
end Jvm.Pilot.@@N@@
