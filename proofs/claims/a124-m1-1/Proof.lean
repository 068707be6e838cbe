import JvmDerived
import JvmDerived.Pilot.@@N@@Statement
import JvmDerived.Pilot.@@N@@Code
set_option linter.unusedVariables false
set_option linter.unusedSimpArgs false
@@BLOCK:NumsL.lean.txt@@
namespace Jvm.RoadKit
open Sem ClassFile Op Lib Jvm.Stand Jvm.Free Jvm.LawKit
section New
variable {p : Program} {l : Launch} {e : Env} {R : Room} {s : State} {m : MethodId} {args : Array Value} {below : List Frame} {meth : Method} {c : Code} {T : State} {locs : List Loc} {cells slots : Nat}
theorem retI (X : Stand p l e R s m args below meth c T locs cells slots) (hx : p.tables.exec = Jvm.exec) {pc : Nat} {Ls : Array Slot} {z : Int32} {rest : List Value} (hret : meth.sig.returnType = some .int) (hd : decode c.code pc = .ok (.ireturn, 1)) {fs : List Frame}
    (hl : ∀ (f : JFrame) (acts : List Action), f.method = m → f.locked = none → f.entered = [] → (doReturn e (T.setTop f) acts (some (.int z))).1 = T.setFrames fs) : Steps p.tables e below (T.setTop (mkF m pc Ls (.int z :: rest))) (T.setFrames fs) := by
  have hm' : T.vm.method? m = some meth := X.method'
  have hn : narrow .int (.int z) = .int z := rfl
  show Steps p.tables e below (T.setTop { method := m, pc := pc, locals := Ls, stack := _ :: rest, locked := none }) _
  jvm_step X.here [X.here.top, hx, hd, hm', hret, hn]
  first | (intro acts; rw [hl _ acts rfl rfl rfl]) | rw [hl _ _ rfl rfl rfl]
  exact Steps.refl _
end New
end Jvm.RoadKit
namespace Jvm.Pilot.@@N@@
open Jvm Jvm.ClassFile Sem Op Lib Jvm.Free Jvm.Stand Jvm.LawKit Jvm.RoadKit Bundle Jvm.Pilot.@@N@@.Jvm.D
theorem pn_0 : plainName "java/lang/StringLatin1" = true := by first | (simp [plainName, overriddenIn]; done) | decide +kernel
theorem pn_1 : plainName "java/lang/String" = true := by first | (simp [plainName, overriddenIn]; done) | decide +kernel
theorem pd_0 : parseMethodDescriptor "(C)Z" = some ⟨[.char], some .boolean⟩ := by decide +kernel
theorem pd_1 : parseMethodDescriptor "(C)[B" = some ⟨[.char], some (.array .byte)⟩ := by decide +kernel
theorem pd_2 : parseMethodDescriptor "([BB)V" = some ⟨[(.array .byte), .byte], none⟩ := by decide +kernel
theorem pn_2 : plainName "com/example/pourcode/pourcode/csv/CsvRecordGetPinLaw" = true := by first | (simp [plainName, overriddenIn]; done) | decide +kernel
theorem pd_3 : parseMethodDescriptor "(C)Ljava/lang/String;" = some ⟨[.char], some (.object "java/lang/String")⟩ := by decide +kernel
theorem pn_3 : plainName "jdk/internal/util/Preconditions" = true := by first | (simp [plainName, overriddenIn]; done) | decide +kernel
theorem pn_4 : plainName "java/util/Objects" = true := by first | (simp [plainName, overriddenIn]; done) | decide +kernel
theorem pd_4 : parseMethodDescriptor "(IILjava/util/function/BiFunction;)I" = some ⟨[.int, .int, (.object "java/util/function/BiFunction")], some .int⟩ := by decide +kernel
theorem pn_5 : plainName "com/example/pourcode/pourcode/csv/CsvRecord" = true := by first | (simp [plainName, overriddenIn]; done) | decide +kernel
theorem pd_5 : parseMethodDescriptor "(II)I" = some ⟨[.int, .int], some .int⟩ := by decide +kernel
theorem pd_6 : parseMethodDescriptor "(III)Ljava/lang/String;" = some ⟨[.int, .int, .int], some (.object "java/lang/String")⟩ := by decide +kernel
theorem pd_7 : parseMethodDescriptor "(Ljava/lang/String;I[Ljava/lang/String;I[B)V" = some ⟨[(.object "java/lang/String"), .int, (.array (.object "java/lang/String")), .int, (.array .byte)], none⟩ := by decide +kernel
theorem pd_8 : parseMethodDescriptor "(I)Ljava/lang/String;" = some ⟨[.int], some (.object "java/lang/String")⟩ := by decide +kernel
theorem pd_9 : parseMethodDescriptor "()Z" = some ⟨[], some .boolean⟩ := by decide +kernel
theorem own_stak {Z : State} {h h' : Heap} {C n d : String} {v : Value} {ws : List Addr} (F : Sta Z h C n d v) (K : Keep h h' ws) (q : ∀ x ∈ ws, ∀ cell : Cell, h[x]? = some cell → cell.vm.isStatics = false) : Sta Z h' C n d v := by
  obtain ⟨cf, i, k, f, st, cell, h1, h2, h3, h4, h5, h6, h7⟩ := F
  exact ⟨cf, i, k, f, st, cell, h1, h2, h3, h4, K.2.1 st cell h5 (fun z => by have r := q st z cell h5; rw [h6] at r; cases r), h6, h7⟩


theorem own_of (n : Nat) (h : n ≤ 4000) : (Int32.ofNat n).toInt = n := by
  have q : (Int32.ofNat n).toInt = (n : Int).bmod (2 ^ 32) := by simp [Int32.toInt_ofNat']
  rw [q, Int.bmod_def]; omega
theorem own_ix {ln : Int32} {cs : List Int32} {i : Nat} (hl : ln = Int32.ofNat cs.length ∧ cs.length ≤ 4000) (hi : i < cs.length) : ¬ Int32.ofNat i < (0 : Int32) ∧ Int32.ofNat i < ln := by
  have e1 := own_of i (by omega); have e2 := own_of cs.length hl.2
  rw [hl.1]
  constructor
  · rw [Int32.lt_iff_toInt_lt, e1, Int32.toInt_zero]; omega
  · rw [Int32.lt_iff_toInt_lt, e1, e2]; omega
theorem own_cl {n : Nat} (h : n ≤ 4000) : (Int32.ofNat n).toNatClampNeg = n := by
  show (Int32.ofNat n).toInt.toNat = n
  rw [own_of n h]; omega
theorem own_bat {ln : Int32} {cs : List Int32} {i : Nat} (hl : ln = Int32.ofNat cs.length ∧ cs.length ≤ 4000) (hi : i < cs.length) : ((cs.map fun c => c.toInt8.toInt32).map Value.int).getD (Int32.ofNat i).toNatClampNeg (.int (0 : Int32)) = .int (cs.getD i 0).toInt8.toInt32 := by
  rw [own_cl (by omega)]
  simp [List.getD_eq_getElem?_getD, hi]
theorem own_byte : ∀ k : Fin 256, nar .char ((((Int32.ofNat k.val).toInt8.toInt32) &&& (255 : Int32)).toUInt32.toUInt16.toUInt32.toInt32) = Int32.ofNat k.val ∧ nar .char (Int32.ofNat k.val) = Int32.ofNat k.val := by decide +kernel
theorem own_lat {c : Int32} (h : ¬ c < 0 ∧ ¬ (255 : Int32) < c) : ∃ k : Fin 256, c = Int32.ofNat k.val := by
  have e : (255 : Int32).toInt = 255 := by decide
  rw [Int32.lt_iff_toInt_lt, Int32.lt_iff_toInt_lt, e, Int32.toInt_zero] at h
  refine ⟨⟨c.toInt.toNat, by omega⟩, Int32.toInt_inj.mp ?_⟩
  rw [own_of _ (show c.toInt.toNat ≤ 4000 by omega)]; omega
theorem own_get {cs : List Int32} {i : Nat} (hcs : ∀ c ∈ cs, ¬ c < 0 ∧ ¬ (255 : Int32) < c) (hi : i < cs.length) : ∃ k : Fin 256, cs.getD i 0 = Int32.ofNat k.val := by
  apply own_lat; apply hcs
  rw [List.getD_eq_getElem?_getD, List.getElem?_eq_getElem hi]; exact List.getElem_mem hi
theorem own_b2c {cs : List Int32} {i : Nat} (hcs : ∀ c ∈ cs, ¬ c < 0 ∧ ¬ (255 : Int32) < c) (hi : i < cs.length) : nar .char ((((cs.getD i 0).toInt8.toInt32) &&& (255 : Int32)).toUInt32.toUInt16.toUInt32.toInt32) = cs.getD i 0 := by
  obtain ⟨k, e⟩ := own_get hcs hi; rw [e]; exact (own_byte k).1
theorem own_charnar {cs : List Int32} {i : Nat} (hcs : ∀ c ∈ cs, ¬ c < 0 ∧ ¬ (255 : Int32) < c) (hi : i < cs.length) : nar .char (cs.getD i 0) = cs.getD i 0 := by
  obtain ⟨k, e⟩ := own_get hcs hi; rw [e]; exact (own_byte k).2

theorem d3_0 : decode jdk_43_method_3_code 0 = .ok (.iload_n 0, 1) := by decide +kernel
theorem d3_1 : decode jdk_43_method_3_code 1 = .ok (.sipush 255, 3) := by decide +kernel
theorem d3_4 : decode jdk_43_method_3_code 4 = .ok (.if_icmp .gt 7, 3) := by decide +kernel
theorem d3_7 : decode jdk_43_method_3_code 7 = .ok (.iconst 1, 1) := by decide +kernel
theorem d3_8 : decode jdk_43_method_3_code 8 = .ok (.goto 4, 3) := by decide +kernel
theorem d3_11 : decode jdk_43_method_3_code 11 = .ok (.iconst 0, 1) := by decide +kernel
theorem d3_12 : decode jdk_43_method_3_code 12 = .ok (.ireturn, 1) := by decide +kernel
def own_f3 (p1 : Int32) : Int32 := (if (255 : Int32) < p1 then (0 : Int32) else (1 : Int32))
def Q3 (p1 : Int32) (h0 : Heap) (n0 : Nat) (v : Option Value) (h : Heap) (L : List Loc) : Prop := v = some (.int (own_f3 p1)) ∧ Fr n0 L ∧ h = h0
theorem ef_3 (m : MethodId) (x0 : Int32) : entryFrame m #[(.int x0)] 1 = mkF m 0 #[.val (.int x0)] [] := by first | (simp [entryFrame, mkF, argsToLocals, Value.category]; done) | rfl
set_option maxRecDepth 65536 in
set_option maxHeartbeats 40000000 in
theorem rm3 (l : Launch) (Z : State) (a0 : Array Value) (hw : ∀ d ∈ tables_1, d.before a0 Z = true) (ws : List Jvm.Cond) (p1 : Int32) (h0 : Heap) (n0 : Nat) :
    MetFree l (⟨"java/lang/StringLatin1", "canEncode", "(C)Z"⟩ : MethodName) (head1 (Jvm.Cond.code (⟨"java/lang/StringLatin1", "canEncode", "(C)Z"⟩ : MethodName) jdk_43_method_3_code 1 (some .boolean) :: ws) ({ frames := 0, cells := 0, slots := 0, locals := 0 } : Room)) (fun a U => a = #[(.int p1)] ∧ Z.Warmed39 U.vm ∧ U.heap = h0) (fun _ _ _ _ _ => True) (fun _ U o U' => ∃ v L, o = .returned v ∧ Q3 p1 h0 n0 v U'.heap L ∧ FrameEnd U o U' L ({ frames := 0, cells := 0, slots := 0, locals := 0 } : Room).cells ({ frames := 0, cells := 0, slots := 0, locals := 0 } : Room).slots) := by
  refine MetFree.of_bodySF (plainFor_of_name pn_0) hisR ?_
  intro p e s m args below meth c s₁ Bd hml0 hP hK
  obtain ⟨rfl, hZ, hh⟩ := hP
  have hx := Bd.exec
  have hby := Bd.bytes
  have hml : c.maxLocals = 1 := hml0
  have hown : s.vm.findClass "java/lang/StringLatin1" = some m.cls := findClass_of_methodNamed Bd.named
  have hnm := (name_of_methodNamed Bd.named Bd.method).1
  have X0 : Stand p l e ({ frames := 0, cells := 0, slots := 0, locals := 0 } : Room) s m #[(.int p1)] below meth c s₁ [] 0 0 := Stand.of_body Bd
  have e0 : s₁.heap = h0 := by rw [← hh, Bd.state]; rfl
  have N0 := Fr.nil n0
  have pre0 : ∀ t, Steps p.tables e below (s₁.setTop (mkF m 0 #[.val (.int p1)] [])) t → Steps p.tables e below (s₁.setTop (entryFrame m #[(.int p1)] 1)) t := fun t k => castTop (ef_3 m p1) k
  obtain ⟨fs, hr, hrun, hended, hW, hsame⟩ := X0.leave (v := some (.int (own_f3 p1))) (fun h => by rw [Bd.returns] at h; cases h)
  refine ⟨_, _, pre0 _ ?_, hrun, hended, _, _, rfl, ?_, ⟨_, rfl⟩, hW, hsame.mono (by decide) (by decide)⟩
  · skip
    have J0 : ∀ (hv : own_f3 p1 = own_f3 p1 ), Steps p.tables e below (s₁.setTop (mkF m 0 #[.val (.int p1)] [])) (s₁.setFrames fs) := by
      intro hv
      show Steps p.tables e below (s₁.setTop (mkF m 0 #[.val (.int p1)] [])) _
      refine XS.iloadN X0.here hx rfl (hb hby d3_0) rfl ?_
      show Steps p.tables e below (s₁.setTop (mkF m 1 #[.val (.int p1)] [(.int p1)])) _
      refine XS.sipush X0.here hx rfl (hb hby d3_1) ?_
      show Steps p.tables e below (s₁.setTop (mkF m 4 #[.val (.int p1)] [(.int (255 : Int32)), (.int p1)])) _
      by_cases hc4 : (255 : Int32) < p1
      · replace hv := hv.trans (if_pos hc4)
        refine XS.icmpYes X0.here hx rfl (pc0 := 4) (pc' := 11) rfl (hb hby d3_4) rfl (tlt hc4).2.2.1 (by decide) (by decide) ?_
        show Steps p.tables e below (s₁.setTop (mkF m 11 #[.val (.int p1)] [])) _
        refine XS.iconst X0.here hx rfl (hb hby d3_11) ?_
        show Steps p.tables e below (s₁.setTop (mkF m 12 #[.val (.int p1)] [(.int (0 : Int32))])) _
        rw [hv] at hr
        exact retN X0 hx (t := .boolean) Bd.returns (by simp) (hb hby d3_12) hr
      · replace hv := hv.trans (if_neg hc4)
        refine XS.icmpNo X0.here hx rfl (hb hby d3_4) rfl (flt hc4).2.2.1 ?_
        show Steps p.tables e below (s₁.setTop (mkF m 7 #[.val (.int p1)] [])) _
        refine XS.iconst X0.here hx rfl (hb hby d3_7) ?_
        show Steps p.tables e below (s₁.setTop (mkF m 8 #[.val (.int p1)] [(.int (1 : Int32))])) _
        refine XS.goto X0.here hx rfl (pc0 := 8) (pc' := 12) rfl (hb hby d3_8) (by decide) (by decide) ?_
        show Steps p.tables e below (s₁.setTop (mkF m 12 #[.val (.int p1)] [(.int (1 : Int32))])) _
        rw [hv] at hr
        exact retN X0 hx (t := .boolean) Bd.returns (by simp) (hb hby d3_12) hr
    exact J0 rfl
  · show Q3 p1 h0 n0 _ s₁.heap _
    rw [e0]
    exact ⟨rfl, N0, rfl⟩

def own_S (Z : State) (h : Heap) (v : Value) : Prop := v = .null ∨ ∃ a, v = .ref a ∧ Exa Z h a "java/lang/String"
theorem own_Sext {Z : State} {h h' : Heap} {v : Value} (F : own_S Z h v) (E : Ext h h') : own_S Z h' v := F.imp id fun ⟨a, e, X⟩ => ⟨a, e, X.ext E⟩
theorem own_Swr {Z : State} {h h' : Heap} {v w : Value} {a : Addr} {sl : Nat} (F : own_S Z h v) (W : Wr h h' a sl w) : own_S Z h' v := F.imp id fun ⟨a, e, X⟩ => ⟨a, e, X.wr W⟩
theorem own_Skeep {Z : State} {h h' : Heap} {v : Value} {ws : List Addr} (F : own_S Z h v) (K : Keep h h' ws) : own_S Z h' v := F.imp id fun ⟨a, e, X⟩ => ⟨a, e, X.keep K⟩
theorem own_sto {Z : State} {h : Heap} {a : Addr} {c : Cell} {ty : FieldType} {k : ClassId} {v : Value} (A : Arr Z h a c ty) (q : c.cls = k) (O : Ovr Z k "java/lang/String") (F : own_S Z h v) : Sto Z h a v := by
  rcases F with rfl | ⟨y, rfl, E⟩
  · exact Or.inl rfl
  · exact Sto.ofV A q O (Ins.self E)
theorem own_fits {v : Value} (h : v.isRef = true) : fits (.object "java/lang/String") v = true := by
  rcases ref_cases h with rfl | ⟨_, rfl⟩ <;> rfl
theorem own_getref {vs : List Value} (h : ∀ v ∈ vs, v.isRef = true) (i : Nat) : (vs.getD i Value.null).isRef = true := by
  by_cases q : i < vs.length
  · rw [List.getD_eq_getElem?_getD, List.getElem?_eq_getElem q]; exact h _ (List.getElem_mem q)
  · rw [List.getD_eq_getElem?_getD, List.getElem?_eq_none (Nat.le_of_not_lt q)]; rfl
theorem own_e255 (x : Int32) : ¬ own_f3 ((x &&& (255 : Int32)).toUInt32.toUInt16.toUInt32.toInt32) = 0 := by
  have e := Jvm.Kit.i32_mask x 255 (k := 8) (by decide) (by decide)
  obtain ⟨k, hk⟩ := own_lat (c := x &&& 255) (by
    have e2 : (255 : Int32).toInt = 255 := by decide
    rw [Int32.lt_iff_toInt_lt, Int32.lt_iff_toInt_lt, e, e2, Int32.toInt_zero]; omega)
  rw [hk]
  have t : ∀ k : Fin 256, ¬ own_f3 ((Int32.ofNat k.val).toUInt32.toUInt16.toUInt32.toInt32) = 0 := by decide +kernel
  exact t k
theorem own_clamp4 {i : Nat} (h : i < 4) : (Int32.ofNat i).toNatClampNeg = i := own_cl (by omega)
theorem own_n4 (x : Int32) (h1 : ¬ ((1 : Int32) + (x &&& (3 : Int32))) = 1) (h2 : ¬ ((1 : Int32) + (x &&& (3 : Int32))) = 2) (h3 : ¬ ((1 : Int32) + (x &&& (3 : Int32))) = 3) : ((1 : Int32) + (x &&& (3 : Int32))) = 4 := by
  have e := Jvm.Kit.i32_mask x 3 (k := 2) (by decide) (by decide)
  have h : (x &&& 3).toInt = 0 ∨ (x &&& 3).toInt = 1 ∨ (x &&& 3).toInt = 2 ∨ (x &&& 3).toInt = 3 := by rw [e]; omega
  rcases h with h | h | h | h
  · rw [show (x &&& 3) = 0 from Int32.toInt_inj.mp (h.trans (by decide))] at h1; exact absurd rfl h1
  · rw [show (x &&& 3) = 1 from Int32.toInt_inj.mp (h.trans (by decide))] at h2; exact absurd rfl h2
  · rw [show (x &&& 3) = 2 from Int32.toInt_inj.mp (h.trans (by decide))] at h3; exact absurd rfl h3
  · rw [show (x &&& 3) = 3 from Int32.toInt_inj.mp (h.trans (by decide))]; rfl
theorem own_col1 (x : Int32) : ∃ i, i < 1 ∧ (x &&& (2147483647 : Int32)) % (1 : Int32) = Int32.ofNat i := by
  have e := Jvm.Kit.i32_mask x 2147483647 (k := 31) (by decide) (by decide)
  have e2 := Jvm.Kit.i32_rem_nonneg (x := x &&& 2147483647) (y := 1) (by rw [e]; omega)
  have e6 : (1 : Int32).toInt = 1 := by decide
  rw [e6] at e2
  refine ⟨((x &&& 2147483647) % 1).toInt.toNat, by rw [e2]; omega, Int32.toInt_inj.mp ?_⟩
  rw [own_of _ (by rw [e2]; omega)]
  have : 0 ≤ ((x &&& 2147483647) % (1 : Int32)).toInt := by rw [e2]; omega
  omega
theorem own_ix1 {i : Nat} (h : i < 1) : ¬ Int32.ofNat i < (0 : Int32) ∧ Int32.ofNat i < (1 : Int32) := by
  have t : ∀ j : Fin 1, ¬ Int32.ofNat j.val < (0 : Int32) ∧ Int32.ofNat j.val < (1 : Int32) := by decide +kernel
  exact t ⟨i, h⟩
theorem own_kept1 {v0 v1 v2 v3 : Value} {i : Nat} (h : i < 1) : ([v0] : List Value).getD i Value.null = (if Int32.ofNat i = (0 : Int32) then v0 else (if Int32.ofNat i = (1 : Int32) then v1 else (if Int32.ofNat i = (2 : Int32) then v2 else v3))) := by
  match i, h with
  | 0, _ => rfl
  | k + 1, h => exact absurd h (by omega)
theorem own_col2 (x : Int32) : ∃ i, i < 2 ∧ (x &&& (2147483647 : Int32)) % (2 : Int32) = Int32.ofNat i := by
  have e := Jvm.Kit.i32_mask x 2147483647 (k := 31) (by decide) (by decide)
  have e2 := Jvm.Kit.i32_rem_nonneg (x := x &&& 2147483647) (y := 2) (by rw [e]; omega)
  have e6 : (2 : Int32).toInt = 2 := by decide
  rw [e6] at e2
  refine ⟨((x &&& 2147483647) % 2).toInt.toNat, by rw [e2]; omega, Int32.toInt_inj.mp ?_⟩
  rw [own_of _ (by rw [e2]; omega)]
  have : 0 ≤ ((x &&& 2147483647) % (2 : Int32)).toInt := by rw [e2]; omega
  omega
theorem own_ix2 {i : Nat} (h : i < 2) : ¬ Int32.ofNat i < (0 : Int32) ∧ Int32.ofNat i < (2 : Int32) := by
  have t : ∀ j : Fin 2, ¬ Int32.ofNat j.val < (0 : Int32) ∧ Int32.ofNat j.val < (2 : Int32) := by decide +kernel
  exact t ⟨i, h⟩
theorem own_kept2 {v0 v1 v2 v3 : Value} {i : Nat} (h : i < 2) : ([v0, v1] : List Value).getD i Value.null = (if Int32.ofNat i = (0 : Int32) then v0 else (if Int32.ofNat i = (1 : Int32) then v1 else (if Int32.ofNat i = (2 : Int32) then v2 else v3))) := by
  match i, h with
  | 0, _ => rfl
  | 1, _ => rfl
  | k + 2, h => exact absurd h (by omega)
theorem own_col3 (x : Int32) : ∃ i, i < 3 ∧ (x &&& (2147483647 : Int32)) % (3 : Int32) = Int32.ofNat i := by
  have e := Jvm.Kit.i32_mask x 2147483647 (k := 31) (by decide) (by decide)
  have e2 := Jvm.Kit.i32_rem_nonneg (x := x &&& 2147483647) (y := 3) (by rw [e]; omega)
  have e6 : (3 : Int32).toInt = 3 := by decide
  rw [e6] at e2
  refine ⟨((x &&& 2147483647) % 3).toInt.toNat, by rw [e2]; omega, Int32.toInt_inj.mp ?_⟩
  rw [own_of _ (by rw [e2]; omega)]
  have : 0 ≤ ((x &&& 2147483647) % (3 : Int32)).toInt := by rw [e2]; omega
  omega
theorem own_ix3 {i : Nat} (h : i < 3) : ¬ Int32.ofNat i < (0 : Int32) ∧ Int32.ofNat i < (3 : Int32) := by
  have t : ∀ j : Fin 3, ¬ Int32.ofNat j.val < (0 : Int32) ∧ Int32.ofNat j.val < (3 : Int32) := by decide +kernel
  exact t ⟨i, h⟩
theorem own_kept3 {v0 v1 v2 v3 : Value} {i : Nat} (h : i < 3) : ([v0, v1, v2] : List Value).getD i Value.null = (if Int32.ofNat i = (0 : Int32) then v0 else (if Int32.ofNat i = (1 : Int32) then v1 else (if Int32.ofNat i = (2 : Int32) then v2 else v3))) := by
  match i, h with
  | 0, _ => rfl
  | 1, _ => rfl
  | 2, _ => rfl
  | k + 3, h => exact absurd h (by omega)
theorem own_col4 (x : Int32) : ∃ i, i < 4 ∧ (x &&& (2147483647 : Int32)) % (4 : Int32) = Int32.ofNat i := by
  have e := Jvm.Kit.i32_mask x 2147483647 (k := 31) (by decide) (by decide)
  have e2 := Jvm.Kit.i32_rem_nonneg (x := x &&& 2147483647) (y := 4) (by rw [e]; omega)
  have e6 : (4 : Int32).toInt = 4 := by decide
  rw [e6] at e2
  refine ⟨((x &&& 2147483647) % 4).toInt.toNat, by rw [e2]; omega, Int32.toInt_inj.mp ?_⟩
  rw [own_of _ (by rw [e2]; omega)]
  have : 0 ≤ ((x &&& 2147483647) % (4 : Int32)).toInt := by rw [e2]; omega
  omega
theorem own_ix4 {i : Nat} (h : i < 4) : ¬ Int32.ofNat i < (0 : Int32) ∧ Int32.ofNat i < (4 : Int32) := by
  have t : ∀ j : Fin 4, ¬ Int32.ofNat j.val < (0 : Int32) ∧ Int32.ofNat j.val < (4 : Int32) := by decide +kernel
  exact t ⟨i, h⟩
theorem own_kept4 {v0 v1 v2 v3 : Value} {i : Nat} (h : i < 4) : ([v0, v1, v2, v3] : List Value).getD i Value.null = (if Int32.ofNat i = (0 : Int32) then v0 else (if Int32.ofNat i = (1 : Int32) then v1 else (if Int32.ofNat i = (2 : Int32) then v2 else v3))) := by
  match i, h with
  | 0, _ => rfl
  | 1, _ => rfl
  | 2, _ => rfl
  | 3, _ => rfl
  | k + 4, h => exact absurd h (by omega)

def own_t66 : String := match (tables_1[66]? : Option Jvm.Cond) with | some (Jvm.Cond.stringLink _ _ t) => t | _ => ""
def own_cs66 : List Int32 := own_t66.toList.map fun c => Int32.ofNat c.toNat
theorem own_ht66 : (∀ c ∈ own_t66.toList, c.toNat < 256) ∧ own_t66.toList.map (fun c => Value.int (Jvm.Lit.byteI c.toNat.toUInt16)) = (own_cs66.map fun c => c.toInt8.toInt32).map Value.int := ⟨by decide +kernel, by decide +kernel⟩
theorem own_len66 : own_cs66.length = 0 := by decide +kernel
theorem own_hbd66 : ∀ c ∈ own_cs66, ¬ c < 0 ∧ ¬ (65535 : Int32) < c := by decide +kernel
def own_t36 : String := match (tables_1[36]? : Option Jvm.Cond) with | some (Jvm.Cond.stringLink _ _ t) => t | _ => ""
def own_cs36 : List Int32 := own_t36.toList.map fun c => Int32.ofNat c.toNat
theorem own_ht36 : (∀ c ∈ own_t36.toList, c.toNat < 256) ∧ own_t36.toList.map (fun c => Value.int (Jvm.Lit.byteI c.toNat.toUInt16)) = (own_cs36.map fun c => c.toInt8.toInt32).map Value.int := ⟨by decide +kernel, by decide +kernel⟩
theorem own_len36 : own_cs36.length = 1 := by decide +kernel
theorem own_hbd36 : ∀ c ∈ own_cs36, ¬ c < 0 ∧ ¬ (65535 : Int32) < c := by decide +kernel
abbrev EL : List (String × Nat) := consts_1
theorem own_EW {Z : State} {a0 : Array Value} (hw : ∀ d ∈ tables_1, d.before a0 Z = true) : EW Z a0 EL := (EW.cons (hw _ (List.mem_of_getElem? (i := 66) rfl)) (by decide +kernel) (EW.cons (hw _ (List.mem_of_getElem? (i := 36) rfl)) (by decide +kernel) EW.nil))
theorem own_mem66 : ("com/example/pourcode/pourcode/csv/CsvRecord", 34) ∈ EL := List.mem_of_getElem? (i := 0) rfl
theorem own_mem36 : ("com/example/pourcode/pourcode/csv/CsvRecordGetPinLaw", 22) ∈ EL := List.mem_of_getElem? (i := 1) rfl

def Qrm4 (Z : State) (p1 : Int32) (h0 : Heap) (n0 : Nat) (v : Option Value) (h : Heap) (L : List Loc) : Prop := ∃ (bz : Addr), v = some (.ref bz) ∧ Fr n0 L ∧ Keep h0 h []
theorem d4_0 : decode jdk_43_method_46_code 0 = .ok (.iconst 1, 1) := by decide +kernel
theorem d4_1 : decode jdk_43_method_46_code 1 = .ok (.newarray .byte, 2) := by decide +kernel
theorem d4_3 : decode jdk_43_method_46_code 3 = .ok (.dup, 1) := by decide +kernel
theorem d4_4 : decode jdk_43_method_46_code 4 = .ok (.iconst 0, 1) := by decide +kernel
theorem d4_5 : decode jdk_43_method_46_code 5 = .ok (.iload_n 0, 1) := by decide +kernel
theorem d4_6 : decode jdk_43_method_46_code 6 = .ok (.i2b, 1) := by decide +kernel
theorem d4_7 : decode jdk_43_method_46_code 7 = .ok (.bastore, 1) := by decide +kernel
theorem d4_8 : decode jdk_43_method_46_code 8 = .ok (.areturn, 1) := by decide +kernel
theorem ef_4 (m : MethodId) (x0 : Int32) : entryFrame m #[(.int x0)] 1 = mkF m 0 #[.val (.int x0)] [] := by first | (simp [entryFrame, mkF, argsToLocals, Value.category]; done) | rfl
set_option maxRecDepth 65536 in
set_option maxHeartbeats 40000000 in
theorem rm4 (l : Launch) (Z : State) (a0 : Array Value) (hw : ∀ d ∈ tables_1, d.before a0 Z = true) (ws : List Jvm.Cond) (p1 : Int32) (h0 : Heap) (n0 : Nat) (Z0 : n0 ≤ h0.size) :
    MetFree l (⟨"java/lang/StringLatin1", "toBytes", "(C)[B"⟩ : MethodName) (head1 (Jvm.Cond.code (⟨"java/lang/StringLatin1", "toBytes", "(C)[B"⟩ : MethodName) jdk_43_method_46_code 1 (some (.array .byte)) :: ws) ({ frames := 0, cells := 1, slots := 1, locals := 0 } : Room)) (fun a U => a = #[(.int p1)] ∧ Z.Warmed39 U.vm ∧ U.heap = h0) (fun _ _ _ _ _ => True) (fun _ U o U' => ∃ v L, o = .returned v ∧ Qrm4 Z p1 h0 n0 v U'.heap L ∧ FrameEnd U o U' L ({ frames := 0, cells := 1, slots := 1, locals := 0 } : Room).cells ({ frames := 0, cells := 1, slots := 1, locals := 0 } : Room).slots) := by
  refine MetFree.of_bodySF (plainFor_of_name pn_0) hisR ?_
  intro p e s m args below meth c s₁ Bd hml0 hP hK
  obtain ⟨rfl, hZ, hh⟩ := hP
  have hx := Bd.exec
  have hby := Bd.bytes
  have hml : c.maxLocals = 1 := hml0
  have hown : s.vm.findClass "java/lang/StringLatin1" = some m.cls := findClass_of_methodNamed Bd.named
  have hnm := (name_of_methodNamed Bd.named Bd.method).1
  have X0 : Stand p l e ({ frames := 0, cells := 1, slots := 1, locals := 0 } : Room) s m #[(.int p1)] below meth c s₁ [] 0 0 := Stand.of_body Bd
  have e0 : s₁.heap = h0 := by rw [← hh, Bd.state]; rfl
  have N0 := Fr.nil n0
  have pre0 : ∀ t, Steps p.tables e below (s₁.setTop (mkF m 0 #[.val (.int p1)] [])) t → Steps p.tables e below (s₁.setTop (entryFrame m #[(.int p1)] 1)) t := fun t k => castTop (ef_4 m p1) k
  have pre1 : ∀ t, Steps p.tables e below (s₁.setTop (mkF m 1 #[.val (.int p1)] [(.int (1 : Int32))])) t → Steps p.tables e below (s₁.setTop (entryFrame m #[(.int p1)] 1)) t := by
    intro t kt
    refine pre0 t ?_
    show Steps p.tables e below (s₁.setTop (mkF m 0 #[.val (.int p1)] [])) _
    refine XS.iconst X0.here hx rfl (hb hby d4_0) ?_
    exact kt
  obtain ⟨T2, h2, k2, X2, e2, E2, A2, st2⟩ := newP X0 hx hZ (hw _ (List.mem_of_getElem? (i := 18) rfl)) e0 (g := (mkF m 1 #[.val (.int p1)] [(.int (1 : Int32))])) rfl (hb hby d4_1) rfl (by decide) (cap := 1) (by decide) (by decide) (by decide) (by decide)
  obtain ⟨b2, g2⟩ : ∃ z, z = h0.size := ⟨_, rfl⟩
  have g_b2 : n0 ≤ b2 := Nat.le_trans Z0 (Nat.le_of_eq g2.symm)
  have sz_b2 : h0.size ≤ b2 := Nat.le_trans (Keep.refl h0 []).1 (Nat.le_of_eq g2.symm)
  rw [← g2] at A2 st2
  have K2 : Keep h0 h2 [] := (Keep.refl h0 []).ext E2
  have Z2 : n0 ≤ h2.size := Nat.le_trans Z0 E2.1
  have V_b2 : Arv Z h2 b2 k2 .byte (1 : Int32) [(.int (0 : Int32))] (.int (0 : Int32)) := (Arv.new A2 (by decide)).pad (pad_rep [] (.int (0 : Int32)) 1)
  have pre2 : ∀ t, Steps p.tables e below (T2.setTop (mkF m 3 #[.val (.int p1)] [(.ref b2)])) t → Steps p.tables e below (s₁.setTop (entryFrame m #[(.int p1)] 1)) t := fun t kt => pre1 t (st2 _ kt)
  have pre3 : ∀ t, Steps p.tables e below (T2.setTop (mkF m 7 #[.val (.int p1)] [(.int (p1.toInt8.toInt32)), (.int (0 : Int32)), (.ref b2), (.ref b2)])) t → Steps p.tables e below (s₁.setTop (entryFrame m #[(.int p1)] 1)) t := by
    intro t kt
    refine pre2 t ?_
    show Steps p.tables e below (T2.setTop (mkF m 3 #[.val (.int p1)] [(.ref b2)])) _
    refine XS.dup X2.here hx rfl (hb hby d4_3) rfl rfl ?_
    show Steps p.tables e below (T2.setTop (mkF m 4 #[.val (.int p1)] [(.ref b2), (.ref b2)])) _
    refine XS.iconst X2.here hx rfl (hb hby d4_4) ?_
    show Steps p.tables e below (T2.setTop (mkF m 5 #[.val (.int p1)] [(.int (0 : Int32)), (.ref b2), (.ref b2)])) _
    refine XS.iloadN X2.here hx rfl (hb hby d4_5) rfl ?_
    show Steps p.tables e below (T2.setTop (mkF m 6 #[.val (.int p1)] [(.int p1), (.int (0 : Int32)), (.ref b2), (.ref b2)])) _
    refine XS.i2b X2.here hx rfl (hb hby d4_6) rfl ?_
    exact kt
  obtain ⟨cl4, Ar4, q4, S4, M4, H4, G4⟩ := (id V_b2)
  have hin4 : ¬ ((0 : Int32) < 0 ∨ cl4.slots.size ≤ ((0 : Int32)).toNatClampNeg) := inb_of S4 ⟨by decide, by decide⟩
  obtain ⟨T4, h4, X4, e4, W4, st4⟩ := stB X2 hx hZ e2 Ar4 (j := (0 : Int32)) hin4 (g := (mkF m 7 #[.val (.int p1)] [(.int (p1.toInt8.toInt32)), (.int (0 : Int32)), (.ref b2), (.ref b2)])) rfl rfl (hb hby d4_7)
  have V_b2_4 := Arv.set Ar4 q4 S4 M4 H4 G4 (fits_nar_byte _) W4 0 rfl (Nat.le_of_ble_eq_true rfl)
  have N4 := Fr.snoc X4 N0 g_b2
  have K4 : Keep h0 h4 [] := K2.wr W4 (Or.inr sz_b2)
  have Z4 : n0 ≤ h4.size := Nat.le_trans Z2 (Keep.of_wr W4).1
  have V_b2_4' : Arv Z h4 b2 k2 .byte (1 : Int32) [(.int (nar .byte (p1.toInt8.toInt32)))] (.int (0 : Int32)) := V_b2_4
  have pre4 : ∀ t, Steps p.tables e below (T4.setTop (mkF m 8 #[.val (.int p1)] [(.ref b2)])) t → Steps p.tables e below (s₁.setTop (entryFrame m #[(.int p1)] 1)) t := fun t kt => pre3 t (st4 _ kt)
  obtain ⟨fs, hr, hrun, hended, hW, hsame⟩ := X4.leave (v := some (.ref b2)) (fun h => by rw [Bd.returns] at h; cases h)
  refine ⟨_, _, pre4 _ ?_, hrun, hended, _, _, rfl, ?_, ⟨_, rfl⟩, hW, hsame.mono (by decide) (by decide)⟩
  · show Steps p.tables e below (T4.setTop (mkF m 8 #[.val (.int p1)] [(.ref b2)])) _
    jvm_step X4.here [X4.here.top, hx, (hb hby d4_8), X4.method', Bd.returns, Value.isRef, FieldType.isReference]
    first | (intro acts; rw [hr _ acts rfl rfl rfl]) | rw [hr _ _ rfl rfl rfl]
    exact Steps.refl _
  · show Qrm4 Z p1 h0 n0 _ T4.heap _
    rw [e4]
    exact ⟨b2, rfl, N4, K4⟩
def Qrm5 (Z : State) (a1 : Addr) (a2 : Addr) (p3 : Int32) (h0 : Heap) (n0 : Nat) (v : Option Value) (h : Heap) (L : List Loc) : Prop := v = none ∧ Fr n0 L ∧ Keep h0 h [a1] ∧ Exa Z h a1 "java/lang/String"
theorem d5_0 : decode jdk_42_method_151_code 0 = .ok (.aload_n 0, 1) := by decide +kernel
theorem d5_1 : decode jdk_42_method_151_code 1 = .ok (.invokespecial 1, 3) := by decide +kernel
theorem d5_4 : decode jdk_42_method_151_code 4 = .ok (.aload_n 0, 1) := by decide +kernel
theorem d5_5 : decode jdk_42_method_151_code 5 = .ok (.aload_n 1, 1) := by decide +kernel
theorem d5_6 : decode jdk_42_method_151_code 6 = .ok (.putfield 9, 3) := by decide +kernel
theorem d5_9 : decode jdk_42_method_151_code 9 = .ok (.aload_n 0, 1) := by decide +kernel
theorem d5_10 : decode jdk_42_method_151_code 10 = .ok (.iload_n 2, 1) := by decide +kernel
theorem d5_11 : decode jdk_42_method_151_code 11 = .ok (.putfield 15, 3) := by decide +kernel
theorem d5_14 : decode jdk_42_method_151_code 14 = .ok (.return_, 1) := by decide +kernel
theorem ef_5 (m : MethodId) (x0 : Addr) (x1 : Addr) (x2 : Int32) : entryFrame m #[(.ref x0), (.ref x1), (.int x2)] 3 = mkF m 0 #[.val (.ref x0), .val (.ref x1), .val (.int x2)] [] := by first | (simp [entryFrame, mkF, argsToLocals, Value.category]; done) | rfl
set_option maxRecDepth 65536 in
set_option maxHeartbeats 40000000 in
theorem rm5 (l : Launch) (Z : State) (a0 : Array Value) (hw : ∀ d ∈ tables_1, d.before a0 Z = true) (ws : List Jvm.Cond) (a1 : Addr) (a2 : Addr) (p3 : Int32) (h0 : Heap) (n0 : Nat) (Z0 : n0 ≤ h0.size) (E_a1 : Exa Z h0 a1 "java/lang/String") (F_value_a1 : Fld Z h0 a1 "java/lang/String" "value" "[B" .null) (F_coder_a1 : Fld Z h0 a1 "java/lang/String" "coder" "B" (.int (0 : Int32))) (ge_a1 : n0 ≤ a1) (hp : p3 = (0 : Int32)) :
    MetFree l (⟨"java/lang/String", "<init>", "([BB)V"⟩ : MethodName) (head1 (Jvm.Cond.code (⟨"java/lang/String", "<init>", "([BB)V"⟩ : MethodName) jdk_42_method_151_code 3 none :: ws) ({ frames := 1, cells := 0, slots := 0, locals := 12 } : Room)) (fun a U => a = #[(.ref a1), (.ref a2), (.int p3)] ∧ Z.Warmed39 U.vm ∧ U.heap = h0) (fun _ _ _ _ _ => True) (fun _ U o U' => ∃ v L, o = .returned v ∧ Qrm5 Z a1 a2 p3 h0 n0 v U'.heap L ∧ FrameEnd U o U' L ({ frames := 1, cells := 0, slots := 0, locals := 12 } : Room).cells ({ frames := 1, cells := 0, slots := 0, locals := 12 } : Room).slots) := by
  refine MetFree.of_bodySF (plainFor_of_name pn_1) hisR ?_
  intro p e s m args below meth c s₁ Bd hml0 hP hK
  obtain ⟨rfl, hZ, hh⟩ := hP
  have hx := Bd.exec
  have hby := Bd.bytes
  have hml : c.maxLocals = 3 := hml0
  have hown : s.vm.findClass "java/lang/String" = some m.cls := findClass_of_methodNamed Bd.named
  have hnm := (name_of_methodNamed Bd.named Bd.method).1
  have X0 : Stand p l e ({ frames := 1, cells := 0, slots := 0, locals := 12 } : Room) s m #[(.ref a1), (.ref a2), (.int p3)] below meth c s₁ [] 0 0 := Stand.of_body Bd
  have e0 : s₁.heap = h0 := by rw [← hh, Bd.state]; rfl
  have N0 := Fr.nil n0
  have pre0 : ∀ t, Steps p.tables e below (s₁.setTop (mkF m 0 #[.val (.ref a1), .val (.ref a2), .val (.int p3)] [])) t → Steps p.tables e below (s₁.setTop (entryFrame m #[(.ref a1), (.ref a2), (.int p3)] 3)) t := fun t k => castTop (ef_5 m a1 a2 p3) k
  subst hp
  have pre1 : ∀ t, Steps p.tables e below (s₁.setTop (mkF m 1 #[.val (.ref a1), .val (.ref a2), .val (.int (0 : Int32))] [(.ref a1)])) t → Steps p.tables e below (s₁.setTop (entryFrame m #[(.ref a1), (.ref a2), (.int (0 : Int32))] 3)) t := by
    intro t kt
    refine pre0 t ?_
    show Steps p.tables e below (s₁.setTop (mkF m 0 #[.val (.ref a1), .val (.ref a2), .val (.int (0 : Int32))] [])) _
    refine XS.aloadN X0.here hx rfl (hb hby d5_0) rfl rfl ?_
    exact kt
  obtain ⟨T2, X2, e2, st2⟩ := initO X0 hx hZ hown (hw _ (List.mem_of_getElem? (i := 23) rfl)) (hw _ (List.mem_of_getElem? (i := 24) rfl)) (hw _ (List.mem_of_getElem? (i := 25) rfl)) e0 (g := (mkF m 1 #[.val (.ref a1), .val (.ref a2), .val (.int (0 : Int32))] [(.ref a1)])) rfl (by rw [hml]; rfl) rfl (hb hby d5_1) (by decide) (W := 0) (by show 2 * 0 + _ ≤ _; exact Nat.le_of_eq rfl) (by decide)
  have pre2 : ∀ t, Steps p.tables e below (T2.setTop (mkF m 4 #[.val (.ref a1), .val (.ref a2), .val (.int (0 : Int32))] [])) t → Steps p.tables e below (s₁.setTop (entryFrame m #[(.ref a1), (.ref a2), (.int (0 : Int32))] 3)) t := fun t kt => pre1 t (st2 _ kt)
  have pre3 : ∀ t, Steps p.tables e below (T2.setTop (mkF m 6 #[.val (.ref a1), .val (.ref a2), .val (.int (0 : Int32))] [(.ref a2), (.ref a1)])) t → Steps p.tables e below (s₁.setTop (entryFrame m #[(.ref a1), (.ref a2), (.int (0 : Int32))] 3)) t := by
    intro t kt
    refine pre2 t ?_
    show Steps p.tables e below (T2.setTop (mkF m 4 #[.val (.ref a1), .val (.ref a2), .val (.int (0 : Int32))] [])) _
    refine XS.aloadN X2.here hx rfl (hb hby d5_4) rfl rfl ?_
    show Steps p.tables e below (T2.setTop (mkF m 5 #[.val (.ref a1), .val (.ref a2), .val (.int (0 : Int32))] [(.ref a1)])) _
    refine XS.aloadN X2.here hx rfl (hb hby d5_5) rfl rfl ?_
    exact kt
  obtain ⟨T4, h4, X4, e4, W4, st4⟩ := putF X2 hx hZ hown (host := "") (Or.inl (hw _ (List.mem_of_getElem? (i := 26) rfl))) Via.refl e2 F_value_a1 E_a1 (Or.inr ⟨(hw _ (List.mem_of_getElem? (i := 27) rfl)), rfl, hnm⟩) (hw _ (List.mem_of_getElem? (i := 14) rfl)) (ty := (.array .byte)) (by decide) rfl rfl (g := (mkF m 6 #[.val (.ref a1), .val (.ref a2), .val (.int (0 : Int32))] [(.ref a2), (.ref a1)])) rfl rfl (hb hby d5_6)
  have N4 := Fr.snoc X4 N0 ge_a1
  have K4 : Keep h0 h4 [a1] := (Keep.refl h0 [a1]).wr W4 (Or.inl (List.mem_of_getElem? (i := 0) rfl))
  have Z4 : n0 ≤ h4.size := Nat.le_trans Z0 (Keep.of_wr W4).1
  have E_a1_5 := E_a1.wr W4
  have F_value_a1_6 := F_value_a1.same W4
  have F_coder_a1_7 := F_coder_a1.other W4 (Or.inr (slot_ne (Or.inr (hw _ (List.mem_of_getElem? (i := 29) rfl))) (Or.inr (hw _ (List.mem_of_getElem? (i := 27) rfl))) (by decide) (t := .byte) (t' := (.array .byte)) (by decide) (by decide)))
  have pre4 : ∀ t, Steps p.tables e below (T4.setTop (mkF m 9 #[.val (.ref a1), .val (.ref a2), .val (.int (0 : Int32))] [])) t → Steps p.tables e below (s₁.setTop (entryFrame m #[(.ref a1), (.ref a2), (.int (0 : Int32))] 3)) t := fun t kt => pre3 t (st4 _ kt)
  have pre8 : ∀ t, Steps p.tables e below (T4.setTop (mkF m 11 #[.val (.ref a1), .val (.ref a2), .val (.int (0 : Int32))] [(.int (0 : Int32)), (.ref a1)])) t → Steps p.tables e below (s₁.setTop (entryFrame m #[(.ref a1), (.ref a2), (.int (0 : Int32))] 3)) t := by
    intro t kt
    refine pre4 t ?_
    show Steps p.tables e below (T4.setTop (mkF m 9 #[.val (.ref a1), .val (.ref a2), .val (.int (0 : Int32))] [])) _
    refine XS.aloadN X4.here hx rfl (hb hby d5_9) rfl rfl ?_
    show Steps p.tables e below (T4.setTop (mkF m 10 #[.val (.ref a1), .val (.ref a2), .val (.int (0 : Int32))] [(.ref a1)])) _
    refine XS.iloadN X4.here hx rfl (hb hby d5_10) rfl ?_
    exact kt
  obtain ⟨T9, h9, X9, e9, W9, st9⟩ := putFN X4 hx hZ hown (hw _ (List.mem_of_getElem? (i := 28) rfl)) Via.refl e4 F_coder_a1_7 E_a1_5 (Or.inr ⟨(hw _ (List.mem_of_getElem? (i := 29) rfl)), rfl, hnm⟩) (hw _ (List.mem_of_getElem? (i := 14) rfl)) (ty := .byte) (v' := (.int (0 : Int32))) (by decide) rfl rfl (g := (mkF m 11 #[.val (.ref a1), .val (.ref a2), .val (.int (0 : Int32))] [(.int (0 : Int32)), (.ref a1)])) rfl rfl (hb hby d5_11)
  have N9 := Fr.snoc X9 N4 ge_a1
  have K9 : Keep h0 h9 [a1] := K4.wr W9 (Or.inl (List.mem_of_getElem? (i := 0) rfl))
  have Z9 : n0 ≤ h9.size := Nat.le_trans Z4 (Keep.of_wr W9).1
  have E_a1_10 := E_a1_5.wr W9
  have F_value_a1_11 := F_value_a1_6.other W9 (Or.inr (slot_ne (Or.inr (hw _ (List.mem_of_getElem? (i := 27) rfl))) (Or.inr (hw _ (List.mem_of_getElem? (i := 29) rfl))) (by decide) (t := (.array .byte)) (t' := .byte) (by decide) (by decide)))
  have F_coder_a1_12 := F_coder_a1_7.same W9
  have pre9 : ∀ t, Steps p.tables e below (T9.setTop (mkF m 14 #[.val (.ref a1), .val (.ref a2), .val (.int (0 : Int32))] [])) t → Steps p.tables e below (s₁.setTop (entryFrame m #[(.ref a1), (.ref a2), (.int (0 : Int32))] 3)) t := fun t kt => pre8 t (st9 _ kt)
  obtain ⟨fs, hr, hrun, hended, hW, hsame⟩ := X9.leave (v := none) (fun _ => rfl)
  refine ⟨_, _, pre9 _ ?_, hrun, hended, _, _, rfl, ?_, ⟨_, rfl⟩, hW, hsame.mono (by decide) (by decide)⟩
  · show Steps p.tables e below (T9.setTop (mkF m 14 #[.val (.ref a1), .val (.ref a2), .val (.int (0 : Int32))] [])) _
    exact X9.returnOut hx Bd.returns (hb hby d5_14) hr
  · show Qrm5 Z a1 a2 (0 : Int32) h0 n0 _ T9.heap _
    rw [e9]
    exact ⟨rfl, N9, K9, E_a1_10⟩
def Qrm2 (Z : State) (p1 : Int32) (cz : Int32) (h0 : Heap) (n0 : Nat) (v : Option Value) (h : Heap) (L : List Loc) : Prop := ∃ (az : Addr), v = some (.ref az) ∧ Fr n0 L ∧ Keep h0 h [] ∧ Exa Z h az "java/lang/String"
theorem d2_0 : decode jdk_42_method_139_code 0 = .ok (.getstatic 38, 3) := by decide +kernel
theorem d2_3 : decode jdk_42_method_139_code 3 = .ok (.ifCond .eq 23, 3) := by decide +kernel
theorem d2_6 : decode jdk_42_method_139_code 6 = .ok (.iload_n 0, 1) := by decide +kernel
theorem d2_7 : decode jdk_42_method_139_code 7 = .ok (.invokestatic 1015, 3) := by decide +kernel
theorem d2_10 : decode jdk_42_method_139_code 10 = .ok (.ifCond .eq 16, 3) := by decide +kernel
theorem d2_13 : decode jdk_42_method_139_code 13 = .ok (.new 10, 3) := by decide +kernel
theorem d2_16 : decode jdk_42_method_139_code 16 = .ok (.dup, 1) := by decide +kernel
theorem d2_17 : decode jdk_42_method_139_code 17 = .ok (.iload_n 0, 1) := by decide +kernel
theorem d2_18 : decode jdk_42_method_139_code 18 = .ok (.invokestatic 1018, 3) := by decide +kernel
theorem d2_21 : decode jdk_42_method_139_code 21 = .ok (.iconst 0, 1) := by decide +kernel
theorem d2_22 : decode jdk_42_method_139_code 22 = .ok (.invokespecial 209, 3) := by decide +kernel
theorem d2_25 : decode jdk_42_method_139_code 25 = .ok (.areturn, 1) := by decide +kernel
theorem ef_2 (m : MethodId) (x0 : Int32) : entryFrame m #[(.int x0)] 1 = mkF m 0 #[.val (.int x0)] [] := by first | (simp [entryFrame, mkF, argsToLocals, Value.category]; done) | rfl
set_option maxRecDepth 65536 in
set_option maxHeartbeats 40000000 in
theorem rm2 (l : Launch) (Z : State) (a0 : Array Value) (hw : ∀ d ∈ tables_1, d.before a0 Z = true) (ws : List Jvm.Cond) (p1 : Int32) (cz : Int32) (h0 : Heap) (n0 : Nat) (Z0 : n0 ≤ h0.size) (ST_COMPACT_STRINGS : Sta Z h0 "java/lang/String" "COMPACT_STRINGS" "Z" (.int cz)) (hCS : ¬ (cz = (0 : Int32))) (hE : ¬ own_f3 p1 = 0) :
    MetFree l (⟨"java/lang/String", "valueOf", "(C)Ljava/lang/String;"⟩ : MethodName) (head1 (Jvm.Cond.code (⟨"java/lang/String", "valueOf", "(C)Ljava/lang/String;"⟩ : MethodName) jdk_42_method_139_code 1 (some (.object "java/lang/String")) :: ws) ({ frames := 2, cells := 2, slots := 5, locals := 27 } : Room)) (fun a U => a = #[(.int p1)] ∧ Z.Warmed39 U.vm ∧ U.heap = h0) (fun _ _ _ _ _ => True) (fun _ U o U' => ∃ v L, o = .returned v ∧ Qrm2 Z p1 cz h0 n0 v U'.heap L ∧ FrameEnd U o U' L ({ frames := 2, cells := 2, slots := 5, locals := 27 } : Room).cells ({ frames := 2, cells := 2, slots := 5, locals := 27 } : Room).slots) := by
  refine MetFree.of_bodySF (plainFor_of_name pn_1) hisR ?_
  intro p e s m args below meth c s₁ Bd hml0 hP hK
  obtain ⟨rfl, hZ, hh⟩ := hP
  have hx := Bd.exec
  have hby := Bd.bytes
  have hml : c.maxLocals = 1 := hml0
  have hown : s.vm.findClass "java/lang/String" = some m.cls := findClass_of_methodNamed Bd.named
  have hnm := (name_of_methodNamed Bd.named Bd.method).1
  have X0 : Stand p l e ({ frames := 2, cells := 2, slots := 5, locals := 27 } : Room) s m #[(.int p1)] below meth c s₁ [] 0 0 := Stand.of_body Bd
  have e0 : s₁.heap = h0 := by rw [← hh, Bd.state]; rfl
  have N0 := Fr.nil n0
  have pre0 : ∀ t, Steps p.tables e below (s₁.setTop (mkF m 0 #[.val (.int p1)] [])) t → Steps p.tables e below (s₁.setTop (entryFrame m #[(.int p1)] 1)) t := fun t k => castTop (ef_2 m p1) k
  obtain ⟨T1, X1, e1, st1⟩ := getS2 X0 hx hZ hown (host := "") (Or.inl (hw _ (List.mem_of_getElem? (i := 8) rfl))) Via.refl e0 ST_COMPACT_STRINGS (g := (mkF m 0 #[.val (.int p1)] [])) rfl (hb hby d2_0)
  have pre1 : ∀ t, Steps p.tables e below (T1.setTop (mkF m 3 #[.val (.int p1)] [(.int cz)])) t → Steps p.tables e below (s₁.setTop (entryFrame m #[(.int p1)] 1)) t := fun t kt => pre0 t (st1 _ kt)
  have pre2 : ∀ t, Steps p.tables e below (T1.setTop (mkF m 7 #[.val (.int p1)] [(.int p1)])) t → Steps p.tables e below (s₁.setTop (entryFrame m #[(.int p1)] 1)) t := by
    intro t kt
    refine pre1 t ?_
    show Steps p.tables e below (T1.setTop (mkF m 3 #[.val (.int p1)] [(.int cz)])) _
    refine XS.ifNo X1.here hx rfl (hb hby d2_3) rfl ((if0 _ _).trans (feq hCS).1) ?_
    show Steps p.tables e below (T1.setTop (mkF m 6 #[.val (.int p1)] [])) _
    refine XS.iloadN X1.here hx rfl (hb hby d2_6) rfl ?_
    exact kt
  obtain ⟨_, _, ⟨T3, L3, k3, n3⟩, -, X3, ⟨Lc3, hQ3, l3, y3, z3⟩, st3⟩ := Jvm.LawKit.callS X1 hx (y := (⟨"java/lang/StringLatin1", "canEncode", "(C)Z"⟩ : MethodName)) hown (mvT hZ (hw _ (List.mem_of_getElem? (i := 9) rfl))) (mvT hZ (hw _ (List.mem_of_getElem? (i := 10) rfl))) (mvT hZ (hw _ (List.mem_of_getElem? (i := 11) rfl))) (mvT hZ (hw _ (List.mem_of_getElem? (i := 12) rfl))) (by decide) (backOf (W := 0) (rm3 l Z a0 hw [] p1 h0 n0) hZ (hw _ (List.mem_of_getElem? (i := 12) rfl)) (hw _ (List.mem_of_getElem? (i := 11) rfl)) (by decide) (by decide)) (g := (mkF m 7 #[.val (.int p1)] [(.int p1)])) rfl (by rw [hml]; rfl) (argsL := [(.int p1)]) (rest := []) (lenOf pd_0 rfl) rfl (by show 2 * 0 + _ ≤ _; exact Nat.le_of_eq rfl) (hb hby d2_7) (fun _ _ => ⟨rfl, e1, (by decide : 0 + 0 ≤ _), (by decide : 0 + 0 ≤ _)⟩)
  dsimp only [Pt.U, Pt.locs, Pt.cells, Pt.slots] at X3 l3 y3 z3 st3 hQ3
  subst l3 y3 z3
  obtain ⟨rfl, N3q, e3⟩ := hQ3
  have N3 := Fr.app N0 N3q
  have pre3 : ∀ t, Steps p.tables e below (T3.setTop (mkF m 10 #[.val (.int p1)] [(.int (own_f3 p1))])) t → Steps p.tables e below (s₁.setTop (entryFrame m #[(.int p1)] 1)) t := fun t kt => pre2 t (st3 _ kt)
  have pre4 : ∀ t, Steps p.tables e below (T3.setTop (mkF m 13 #[.val (.int p1)] [])) t → Steps p.tables e below (s₁.setTop (entryFrame m #[(.int p1)] 1)) t := by
    intro t kt
    refine pre3 t ?_
    show Steps p.tables e below (T3.setTop (mkF m 10 #[.val (.int p1)] [(.int (own_f3 p1))])) _
    refine XS.ifNo X3.here hx rfl (hb hby d2_10) rfl ((if0 _ _).trans (feq hE).1) ?_
    exact kt
  obtain ⟨T5, h5, X5, e5, E5, A5, D5, -, st5⟩ := newO X3 hx hZ hown (hw _ (List.mem_of_getElem? (i := 13) rfl)) (hw _ (List.mem_of_getElem? (i := 14) rfl)) (hw _ (List.mem_of_getElem? (i := 6) rfl)) e3 (g := (mkF m 13 #[.val (.int p1)] [])) rfl (hb hby d2_13) (by decide) (by decide)
  obtain ⟨b5, g5⟩ : ∃ z, z = h0.size := ⟨_, rfl⟩
  have g_b5 : n0 ≤ b5 := Nat.le_trans Z0 (Nat.le_of_eq g5.symm)
  have sz_b5 : h0.size ≤ b5 := Nat.le_trans (Keep.refl h0 []).1 (Nat.le_of_eq g5.symm)
  rw [← g5] at A5 D5 st5
  have K5 : Keep h0 h5 [] := (Keep.refl h0 []).ext E5
  have Z5 : n0 ≤ h5.size := Nat.le_trans Z0 E5.1
  have ST_COMPACT_STRINGS_6 := ST_COMPACT_STRINGS.ext E5
  have F_value_b5 : Fld Z h5 b5 "java/lang/String" "value" "[B" .null := D5 (Or.inr (hw _ (List.mem_of_getElem? (i := 27) rfl))) (ty := (.array .byte)) (by decide)
  have F_coder_b5 : Fld Z h5 b5 "java/lang/String" "coder" "B" (.int (0 : Int32)) := D5 (Or.inr (hw _ (List.mem_of_getElem? (i := 29) rfl))) (ty := .byte) (by decide)
  have pre5 : ∀ t, Steps p.tables e below (T5.setTop (mkF m 16 #[.val (.int p1)] [(.ref b5)])) t → Steps p.tables e below (s₁.setTop (entryFrame m #[(.int p1)] 1)) t := fun t kt => pre4 t (st5 _ kt)
  have pre7 : ∀ t, Steps p.tables e below (T5.setTop (mkF m 18 #[.val (.int p1)] [(.int p1), (.ref b5), (.ref b5)])) t → Steps p.tables e below (s₁.setTop (entryFrame m #[(.int p1)] 1)) t := by
    intro t kt
    refine pre5 t ?_
    show Steps p.tables e below (T5.setTop (mkF m 16 #[.val (.int p1)] [(.ref b5)])) _
    refine XS.dup X5.here hx rfl (hb hby d2_16) rfl rfl ?_
    show Steps p.tables e below (T5.setTop (mkF m 17 #[.val (.int p1)] [(.ref b5), (.ref b5)])) _
    refine XS.iloadN X5.here hx rfl (hb hby d2_17) rfl ?_
    exact kt
  obtain ⟨_, _, ⟨T8, L8, k8, n8⟩, -, X8, ⟨Lc8, hQ8, l8, y8, z8⟩, st8⟩ := Jvm.LawKit.callS X5 hx (y := (⟨"java/lang/StringLatin1", "toBytes", "(C)[B"⟩ : MethodName)) hown (mvT hZ (hw _ (List.mem_of_getElem? (i := 15) rfl))) (mvT hZ (hw _ (List.mem_of_getElem? (i := 16) rfl))) (mvT hZ (hw _ (List.mem_of_getElem? (i := 11) rfl))) (mvT hZ (hw _ (List.mem_of_getElem? (i := 17) rfl))) (by decide) (backOf (W := 2) (rm4 l Z a0 hw [] p1 h5 n0 Z5) hZ (hw _ (List.mem_of_getElem? (i := 17) rfl)) (hw _ (List.mem_of_getElem? (i := 11) rfl)) (by decide) (by decide)) (g := (mkF m 18 #[.val (.int p1)] [(.int p1), (.ref b5), (.ref b5)])) rfl (by rw [hml]; rfl) (argsL := [(.int p1)]) (rest := [(.ref b5), (.ref b5)]) (lenOf pd_1 rfl) rfl (by show 2 * 0 + _ ≤ _; exact Nat.le_of_eq rfl) (hb hby d2_18) (fun _ _ => ⟨rfl, e5, (by decide : 1 + 1 ≤ _), (by decide : 4 + 1 ≤ _)⟩)
  dsimp only [Pt.U, Pt.locs, Pt.cells, Pt.slots] at X8 l8 y8 z8 st8 hQ8
  subst l8 y8 z8
  obtain ⟨bz_8, rfl, N8q, KC8⟩ := hQ8
  have N8 := Fr.app N3 N8q
  have Z8 : n0 ≤ T8.heap.size := Nat.le_trans Z5 KC8.1
  have K8 : Keep h0 T8.heap [] := K5.trans KC8 all0
  have ST_COMPACT_STRINGS_9 := own_stak ST_COMPACT_STRINGS_6 KC8 ns0
  have A5_10 := A5.keep KC8
  have F_value_b5_11 := F_value_b5.keep KC8 nin0
  have F_coder_b5_12 := F_coder_b5.keep KC8 nin0
  have pre8 : ∀ t, Steps p.tables e below (T8.setTop (mkF m 21 #[.val (.int p1)] [(.ref bz_8), (.ref b5), (.ref b5)])) t → Steps p.tables e below (s₁.setTop (entryFrame m #[(.int p1)] 1)) t := fun t kt => pre7 t (st8 _ kt)
  have pre13 : ∀ t, Steps p.tables e below (T8.setTop (mkF m 22 #[.val (.int p1)] [(.int (0 : Int32)), (.ref bz_8), (.ref b5), (.ref b5)])) t → Steps p.tables e below (s₁.setTop (entryFrame m #[(.int p1)] 1)) t := by
    intro t kt
    refine pre8 t ?_
    show Steps p.tables e below (T8.setTop (mkF m 21 #[.val (.int p1)] [(.ref bz_8), (.ref b5), (.ref b5)])) _
    refine XS.iconst X8.here hx rfl (hb hby d2_21) ?_
    exact kt
  obtain ⟨_, _, ⟨T14, L14, k14, n14⟩, -, X14, ⟨Lc14, hQ14, l14, y14, z14⟩, st14⟩ := X8.specialBack hx (y := (⟨"java/lang/String", "<init>", "([BB)V"⟩ : MethodName)) rfl hown (mvT hZ (hw _ (List.mem_of_getElem? (i := 19) rfl))) (mvT hZ (hw _ (List.mem_of_getElem? (i := 20) rfl))) (mvT hZ (hw _ (List.mem_of_getElem? (i := 22) rfl))) (by decide) (backOf (W := 1) (rm5 l Z a0 hw [] b5 bz_8 (0 : Int32) T8.heap n0 Z8 A5_10 F_value_b5_11 F_coder_b5_12 g_b5 (rfl)) hZ (hw _ (List.mem_of_getElem? (i := 22) rfl)) (hw _ (List.mem_of_getElem? (i := 6) rfl)) (by decide) (by decide)) (g := (mkF m 22 #[.val (.int p1)] [(.int (0 : Int32)), (.ref bz_8), (.ref b5), (.ref b5)])) rfl (by rw [hml]; rfl) (Steps.refl _) (a := b5) (argsL := [(.ref bz_8), (.int (0 : Int32))]) (rest := [(.ref b5)]) (lenOf pd_2 rfl) rfl (by show 2 * 0 + _ ≤ _; exact Nat.le_of_eq rfl) (hb hby d2_22) (fun _ _ => ⟨rfl, rfl, (by decide : 2 + 0 ≤ _), (by decide : 5 + 0 ≤ _)⟩)
  dsimp only [Pt.U, Pt.locs, Pt.cells, Pt.slots] at X14 l14 y14 z14 st14 hQ14
  subst l14 y14 z14
  obtain ⟨rfl, N14q, KC14, P14_0⟩ := hQ14
  have N14 := Fr.app N8 N14q
  have Z14 : n0 ≤ T14.heap.size := Nat.le_trans Z8 KC14.1
  have K14 : Keep h0 T14.heap [] := K8.trans KC14 (allS (Or.inr sz_b5) all0)
  have ST_COMPACT_STRINGS_15 := own_stak ST_COMPACT_STRINGS_9 KC14 (nsS A5_10.nostat ns0)
  have A5_16 := A5_10.keep KC14
  have E_b5_14 : Exa Z T14.heap b5 "java/lang/String" := P14_0
  have pre14 : ∀ t, Steps p.tables e below (T14.setTop (mkF m 25 #[.val (.int p1)] [(.ref b5)])) t → Steps p.tables e below (s₁.setTop (entryFrame m #[(.int p1)] 1)) t := fun t kt => pre13 t (st14.trans kt)
  obtain ⟨fs, hr, hrun, hended, hW, hsame⟩ := X14.leave (v := some (.ref b5)) (fun h => by rw [Bd.returns] at h; cases h)
  refine ⟨_, _, pre14 _ ?_, hrun, hended, _, _, rfl, ?_, ⟨_, rfl⟩, hW, hsame.mono (by decide) (by decide)⟩
  · show Steps p.tables e below (T14.setTop (mkF m 25 #[.val (.int p1)] [(.ref b5)])) _
    jvm_step X14.here [X14.here.top, hx, (hb hby d2_25), X14.method', Bd.returns, Value.isRef, FieldType.isReference]
    first | (intro acts; rw [hr _ acts rfl rfl rfl]) | rw [hr _ _ rfl rfl rfl]
    exact Steps.refl _
  · show Qrm2 Z p1 cz h0 n0 _ T14.heap _
    exact ⟨b5, rfl, N14, K14, E_b5_14⟩
def Qrm1 (Z : State) (p1 : Int32) (p2 : Int32) (p3 : Int32) (cz : Int32) (h0 : Heap) (n0 : Nat) (v : Option Value) (h : Heap) (L : List Loc) : Prop := ∃ (vz : Value), v = some vz ∧ Fr n0 L ∧ Keep h0 h [] ∧ own_S Z h vz ∧ vz.isRef = true
theorem d1_0 : decode method_2_code 0 = .ok (.iload_n 1, 1) := by decide +kernel
theorem d1_1 : decode method_2_code 1 = .ok (.iload_n 2, 1) := by decide +kernel
theorem d1_2 : decode method_2_code 2 = .ok (.iushr, 1) := by decide +kernel
theorem d1_3 : decode method_2_code 3 = .ok (.iconst 1, 1) := by decide +kernel
theorem d1_4 : decode method_2_code 4 = .ok (.iand, 1) := by decide +kernel
theorem d1_5 : decode method_2_code 5 = .ok (.ifCond .eq 5, 3) := by decide +kernel
theorem d1_8 : decode method_2_code 8 = .ok (.aconst_null, 1) := by decide +kernel
theorem d1_9 : decode method_2_code 9 = .ok (.areturn, 1) := by decide +kernel
theorem d1_10 : decode method_2_code 10 = .ok (.iload_n 0, 1) := by decide +kernel
theorem d1_11 : decode method_2_code 11 = .ok (.sipush 255, 3) := by decide +kernel
theorem d1_14 : decode method_2_code 14 = .ok (.iand, 1) := by decide +kernel
theorem d1_15 : decode method_2_code 15 = .ok (.i2c, 1) := by decide +kernel
theorem d1_16 : decode method_2_code 16 = .ok (.invokestatic 7, 3) := by decide +kernel
theorem d1_19 : decode method_2_code 19 = .ok (.areturn, 1) := by decide +kernel
theorem ef_1 (m : MethodId) (x0 : Int32) (x1 : Int32) (x2 : Int32) : entryFrame m #[(.int x0), (.int x1), (.int x2)] 3 = mkF m 0 #[.val (.int x0), .val (.int x1), .val (.int x2)] [] := by first | (simp [entryFrame, mkF, argsToLocals, Value.category]; done) | rfl
set_option maxRecDepth 65536 in
set_option maxHeartbeats 40000000 in
theorem rm1 (l : Launch) (Z : State) (a0 : Array Value) (hw : ∀ d ∈ tables_1, d.before a0 Z = true) (ws : List Jvm.Cond) (p1 : Int32) (p2 : Int32) (p3 : Int32) (cz : Int32) (h0 : Heap) (n0 : Nat) (Z0 : n0 ≤ h0.size) (ST_COMPACT_STRINGS : Sta Z h0 "java/lang/String" "COMPACT_STRINGS" "Z" (.int cz)) (hCS : ¬ (cz = (0 : Int32))) :
    MetFree l (⟨"com/example/pourcode/pourcode/csv/CsvRecordGetPinLaw", "drawn", "(III)Ljava/lang/String;"⟩ : MethodName) (head1 (Jvm.Cond.code (⟨"com/example/pourcode/pourcode/csv/CsvRecordGetPinLaw", "drawn", "(III)Ljava/lang/String;"⟩ : MethodName) method_2_code 3 (some (.object "java/lang/String")) :: ws) ({ frames := 3, cells := 2, slots := 5, locals := 39 } : Room)) (fun a U => a = #[(.int p1), (.int p2), (.int p3)] ∧ Z.Warmed39 U.vm ∧ U.heap = h0) (fun _ _ _ _ _ => True) (fun _ U o U' => ∃ v L, o = .returned v ∧ Qrm1 Z p1 p2 p3 cz h0 n0 v U'.heap L ∧ FrameEnd U o U' L ({ frames := 3, cells := 2, slots := 5, locals := 39 } : Room).cells ({ frames := 3, cells := 2, slots := 5, locals := 39 } : Room).slots) := by
  refine MetFree.of_bodySF (plainFor_of_name pn_2) hisR ?_
  intro p e s m args below meth c s₁ Bd hml0 hP hK
  obtain ⟨rfl, hZ, hh⟩ := hP
  have hx := Bd.exec
  have hby := Bd.bytes
  have hml : c.maxLocals = 3 := hml0
  have hown : s.vm.findClass "com/example/pourcode/pourcode/csv/CsvRecordGetPinLaw" = some m.cls := findClass_of_methodNamed Bd.named
  have hnm := (name_of_methodNamed Bd.named Bd.method).1
  have X0 : Stand p l e ({ frames := 3, cells := 2, slots := 5, locals := 39 } : Room) s m #[(.int p1), (.int p2), (.int p3)] below meth c s₁ [] 0 0 := Stand.of_body Bd
  have e0 : s₁.heap = h0 := by rw [← hh, Bd.state]; rfl
  have N0 := Fr.nil n0
  have pre0 : ∀ t, Steps p.tables e below (s₁.setTop (mkF m 0 #[.val (.int p1), .val (.int p2), .val (.int p3)] [])) t → Steps p.tables e below (s₁.setTop (entryFrame m #[(.int p1), (.int p2), (.int p3)] 3)) t := fun t k => castTop (ef_1 m p1 p2 p3) k
  have pre1 : ∀ t, Steps p.tables e below (s₁.setTop (mkF m 5 #[.val (.int p1), .val (.int p2), .val (.int p3)] [(.int (((p2.toUInt32 >>> (p3 &&& 31).toUInt32).toInt32) &&& (1 : Int32)))])) t → Steps p.tables e below (s₁.setTop (entryFrame m #[(.int p1), (.int p2), (.int p3)] 3)) t := by
    intro t kt
    refine pre0 t ?_
    show Steps p.tables e below (s₁.setTop (mkF m 0 #[.val (.int p1), .val (.int p2), .val (.int p3)] [])) _
    refine XS.iloadN X0.here hx rfl (hb hby d1_0) rfl ?_
    show Steps p.tables e below (s₁.setTop (mkF m 1 #[.val (.int p1), .val (.int p2), .val (.int p3)] [(.int p2)])) _
    refine XS.iloadN X0.here hx rfl (hb hby d1_1) rfl ?_
    show Steps p.tables e below (s₁.setTop (mkF m 2 #[.val (.int p1), .val (.int p2), .val (.int p3)] [(.int p3), (.int p2)])) _
    refine XS.iushr X0.here hx rfl (hb hby d1_2) rfl ?_
    show Steps p.tables e below (s₁.setTop (mkF m 3 #[.val (.int p1), .val (.int p2), .val (.int p3)] [(.int ((p2.toUInt32 >>> (p3 &&& 31).toUInt32).toInt32))])) _
    refine XS.iconst X0.here hx rfl (hb hby d1_3) ?_
    show Steps p.tables e below (s₁.setTop (mkF m 4 #[.val (.int p1), .val (.int p2), .val (.int p3)] [(.int (1 : Int32)), (.int ((p2.toUInt32 >>> (p3 &&& 31).toUInt32).toInt32))])) _
    refine XS.iand X0.here hx rfl (hb hby d1_4) rfl ?_
    exact kt
  by_cases hc5 : (((p2.toUInt32 >>> (p3 &&& 31).toUInt32).toInt32) &&& (1 : Int32)) = (0 : Int32)
  · have pre2 : ∀ t, Steps p.tables e below (s₁.setTop (mkF m 10 #[.val (.int p1), .val (.int p2), .val (.int p3)] [])) t → Steps p.tables e below (s₁.setTop (entryFrame m #[(.int p1), (.int p2), (.int p3)] 3)) t := by
      intro t kt
      refine pre1 t ?_
      show Steps p.tables e below (s₁.setTop (mkF m 5 #[.val (.int p1), .val (.int p2), .val (.int p3)] [(.int (((p2.toUInt32 >>> (p3 &&& 31).toUInt32).toInt32) &&& (1 : Int32)))])) _
      refine XS.ifYes X0.here hx rfl (pc0 := 5) (pc' := 10) rfl (hb hby d1_5) rfl ((if0 _ _).trans (teq hc5).1) (by decide) (by decide) ?_
      exact kt
    have pre3 : ∀ t, Steps p.tables e below (s₁.setTop (mkF m 16 #[.val (.int p1), .val (.int p2), .val (.int p3)] [(.int ((p1 &&& (255 : Int32)).toUInt32.toUInt16.toUInt32.toInt32))])) t → Steps p.tables e below (s₁.setTop (entryFrame m #[(.int p1), (.int p2), (.int p3)] 3)) t := by
      intro t kt
      refine pre2 t ?_
      show Steps p.tables e below (s₁.setTop (mkF m 10 #[.val (.int p1), .val (.int p2), .val (.int p3)] [])) _
      refine XS.iloadN X0.here hx rfl (hb hby d1_10) rfl ?_
      show Steps p.tables e below (s₁.setTop (mkF m 11 #[.val (.int p1), .val (.int p2), .val (.int p3)] [(.int p1)])) _
      refine XS.sipush X0.here hx rfl (hb hby d1_11) ?_
      show Steps p.tables e below (s₁.setTop (mkF m 14 #[.val (.int p1), .val (.int p2), .val (.int p3)] [(.int (255 : Int32)), (.int p1)])) _
      refine XS.iand X0.here hx rfl (hb hby d1_14) rfl ?_
      show Steps p.tables e below (s₁.setTop (mkF m 15 #[.val (.int p1), .val (.int p2), .val (.int p3)] [(.int (p1 &&& (255 : Int32)))])) _
      refine XS.i2c X0.here hx rfl (hb hby d1_15) rfl ?_
      exact kt
    obtain ⟨_, _, ⟨T4, L4, k4, n4⟩, -, X4, ⟨Lc4, hQ4, l4, y4, z4⟩, st4⟩ := Jvm.LawKit.callS X0 hx (y := (⟨"java/lang/String", "valueOf", "(C)Ljava/lang/String;"⟩ : MethodName)) hown (mvT hZ (hw _ (List.mem_of_getElem? (i := 4) rfl))) (mvT hZ (hw _ (List.mem_of_getElem? (i := 5) rfl))) (mvT hZ (hw _ (List.mem_of_getElem? (i := 6) rfl))) (mvT hZ (hw _ (List.mem_of_getElem? (i := 7) rfl))) (by decide) (backOf (W := 0) (rm2 l Z a0 hw [] ((p1 &&& (255 : Int32)).toUInt32.toUInt16.toUInt32.toInt32) cz h0 n0 Z0 ST_COMPACT_STRINGS (hCS) (own_e255 _)) hZ (hw _ (List.mem_of_getElem? (i := 7) rfl)) (hw _ (List.mem_of_getElem? (i := 6) rfl)) (by decide) (by decide)) (g := (mkF m 16 #[.val (.int p1), .val (.int p2), .val (.int p3)] [(.int ((p1 &&& (255 : Int32)).toUInt32.toUInt16.toUInt32.toInt32))])) rfl (by rw [hml]; rfl) (argsL := [(.int ((p1 &&& (255 : Int32)).toUInt32.toUInt16.toUInt32.toInt32))]) (rest := []) (lenOf pd_3 rfl) rfl (by show 2 * 0 + _ ≤ _; exact Nat.le_of_eq rfl) (hb hby d1_16) (fun _ _ => ⟨rfl, e0, (by decide : 0 + 2 ≤ _), (by decide : 0 + 5 ≤ _)⟩)
    dsimp only [Pt.U, Pt.locs, Pt.cells, Pt.slots] at X4 l4 y4 z4 st4 hQ4
    subst l4 y4 z4
    obtain ⟨az_4, rfl, N4q, KC4, P4_0⟩ := hQ4
    have N4 := Fr.app N0 N4q
    have Z4 : n0 ≤ T4.heap.size := Nat.le_trans Z0 KC4.1
    have K4 : Keep h0 T4.heap [] := (Keep.refl h0 []).trans KC4 all0
    have ST_COMPACT_STRINGS_5 := own_stak ST_COMPACT_STRINGS KC4 ns0
    have E_az_4_4 : Exa Z T4.heap az_4 "java/lang/String" := P4_0
    have pre4 : ∀ t, Steps p.tables e below (T4.setTop (mkF m 19 #[.val (.int p1), .val (.int p2), .val (.int p3)] [(.ref az_4)])) t → Steps p.tables e below (s₁.setTop (entryFrame m #[(.int p1), (.int p2), (.int p3)] 3)) t := fun t kt => pre3 t (st4 _ kt)
    have SS : own_S Z T4.heap (Value.ref az_4) := Or.inr ⟨_, rfl, E_az_4_4⟩
    obtain ⟨fs, hr, hrun, hended, hW, hsame⟩ := X4.leave (v := some (.ref az_4)) (fun h => by rw [Bd.returns] at h; cases h)
    refine ⟨_, _, pre4 _ ?_, hrun, hended, _, _, rfl, ?_, ⟨_, rfl⟩, hW, hsame.mono (by decide) (by decide)⟩
    · show Steps p.tables e below (T4.setTop (mkF m 19 #[.val (.int p1), .val (.int p2), .val (.int p3)] [(.ref az_4)])) _
      jvm_step X4.here [X4.here.top, hx, (hb hby d1_19), X4.method', Bd.returns, Value.isRef, FieldType.isReference]
      first | (intro acts; rw [hr _ acts rfl rfl rfl]) | rw [hr _ _ rfl rfl rfl]
      exact Steps.refl _
    · show Qrm1 Z p1 p2 p3 cz h0 n0 _ T4.heap _
      exact ⟨(Value.ref az_4), rfl, N4, K4, SS, rfl⟩
  · have pre6 : ∀ t, Steps p.tables e below (s₁.setTop (mkF m 8 #[.val (.int p1), .val (.int p2), .val (.int p3)] [])) t → Steps p.tables e below (s₁.setTop (entryFrame m #[(.int p1), (.int p2), (.int p3)] 3)) t := by
      intro t kt
      refine pre1 t ?_
      show Steps p.tables e below (s₁.setTop (mkF m 5 #[.val (.int p1), .val (.int p2), .val (.int p3)] [(.int (((p2.toUInt32 >>> (p3 &&& 31).toUInt32).toInt32) &&& (1 : Int32)))])) _
      refine XS.ifNo X0.here hx rfl (hb hby d1_5) rfl ((if0 _ _).trans (feq hc5).1) ?_
      exact kt
    have pre7 : ∀ t, Steps p.tables e below (s₁.setTop (mkF m 9 #[.val (.int p1), .val (.int p2), .val (.int p3)] [.null])) t → Steps p.tables e below (s₁.setTop (entryFrame m #[(.int p1), (.int p2), (.int p3)] 3)) t := by
      intro t kt
      refine pre6 t ?_
      show Steps p.tables e below (s₁.setTop (mkF m 8 #[.val (.int p1), .val (.int p2), .val (.int p3)] [])) _
      refine XS.aconstNull X0.here hx rfl (hb hby d1_8) ?_
      exact kt
    have SS : own_S Z h0 Value.null := Or.inl rfl
    obtain ⟨fs, hr, hrun, hended, hW, hsame⟩ := X0.leave (v := some .null) (fun h => by rw [Bd.returns] at h; cases h)
    refine ⟨_, _, pre7 _ ?_, hrun, hended, _, _, rfl, ?_, ⟨_, rfl⟩, hW, hsame.mono (by decide) (by decide)⟩
    · show Steps p.tables e below (s₁.setTop (mkF m 9 #[.val (.int p1), .val (.int p2), .val (.int p3)] [.null])) _
      jvm_step X0.here [X0.here.top, hx, (hb hby d1_9), X0.method', Bd.returns, Value.isRef, FieldType.isReference]
      first | (intro acts; rw [hr _ acts rfl rfl rfl]) | rw [hr _ _ rfl rfl rfl]
      exact Steps.refl _
    · show Qrm1 Z p1 p2 p3 cz h0 n0 _ s₁.heap _
      rw [e0]
      exact ⟨Value.null, rfl, N0, (Keep.refl h0 []), SS, rfl⟩
def Qrm10 (Z : State) (p1 : Int32) (p2 : Int32) (u3 : Value) (h0 : Heap) (n0 : Nat) (v : Option Value) (h : Heap) (L : List Loc) : Prop := v = some (.int p1) ∧ Fr n0 L ∧ h = h0
theorem d10_0 : decode jdk_41_method_11_code 0 = .ok (.iload_n 0, 1) := by decide +kernel
theorem d10_1 : decode jdk_41_method_11_code 1 = .ok (.ifCond .lt 8, 3) := by decide +kernel
theorem d10_4 : decode jdk_41_method_11_code 4 = .ok (.iload_n 0, 1) := by decide +kernel
theorem d10_5 : decode jdk_41_method_11_code 5 = .ok (.iload_n 1, 1) := by decide +kernel
theorem d10_6 : decode jdk_41_method_11_code 6 = .ok (.if_icmp .lt 10, 3) := by decide +kernel
theorem d10_16 : decode jdk_41_method_11_code 16 = .ok (.iload_n 0, 1) := by decide +kernel
theorem d10_17 : decode jdk_41_method_11_code 17 = .ok (.ireturn, 1) := by decide +kernel
theorem ef_10 (m : MethodId) (x0 : Int32) (x1 : Int32) {x2 : Value} (hx2 : x2.isRef = true) : entryFrame m #[(.int x0), (.int x1), x2] 3 = mkF m 0 #[.val (.int x0), .val (.int x1), .val x2] [] := by rcases ref_cases hx2 with rfl | ⟨_, rfl⟩ <;> first | (simp [entryFrame, mkF, argsToLocals, Value.category]; done) | rfl
set_option maxRecDepth 65536 in
set_option maxHeartbeats 40000000 in
theorem rm10 (l : Launch) (Z : State) (a0 : Array Value) (hw : ∀ d ∈ tables_1, d.before a0 Z = true) (ws : List Jvm.Cond) (p1 : Int32) (p2 : Int32) (u3 : Value) (h0 : Heap) (n0 : Nat) (Z0 : n0 ≤ h0.size) (hu3 : u3.isRef = true) (h1 : ¬ p1 < (0 : Int32)) (h2 : p1 < p2) :
    MetFree l (⟨"jdk/internal/util/Preconditions", "checkIndex", "(IILjava/util/function/BiFunction;)I"⟩ : MethodName) (head1 (Jvm.Cond.code (⟨"jdk/internal/util/Preconditions", "checkIndex", "(IILjava/util/function/BiFunction;)I"⟩ : MethodName) jdk_41_method_11_code 3 (some .int) :: ws) ({ frames := 0, cells := 0, slots := 0, locals := 0 } : Room)) (fun a U => a = #[(.int p1), (.int p2), u3] ∧ Z.Warmed39 U.vm ∧ U.heap = h0) (fun _ _ _ _ _ => True) (fun _ U o U' => ∃ v L, o = .returned v ∧ Qrm10 Z p1 p2 u3 h0 n0 v U'.heap L ∧ FrameEnd U o U' L ({ frames := 0, cells := 0, slots := 0, locals := 0 } : Room).cells ({ frames := 0, cells := 0, slots := 0, locals := 0 } : Room).slots) := by
  refine MetFree.of_bodySF (plainFor_of_name pn_3) hisR ?_
  intro p e s m args below meth c s₁ Bd hml0 hP hK
  obtain ⟨rfl, hZ, hh⟩ := hP
  have hx := Bd.exec
  have hby := Bd.bytes
  have hml : c.maxLocals = 3 := hml0
  have hown : s.vm.findClass "jdk/internal/util/Preconditions" = some m.cls := findClass_of_methodNamed Bd.named
  have hnm := (name_of_methodNamed Bd.named Bd.method).1
  have X0 : Stand p l e ({ frames := 0, cells := 0, slots := 0, locals := 0 } : Room) s m #[(.int p1), (.int p2), u3] below meth c s₁ [] 0 0 := Stand.of_body Bd
  have e0 : s₁.heap = h0 := by rw [← hh, Bd.state]; rfl
  have N0 := Fr.nil n0
  have pre0 : ∀ t, Steps p.tables e below (s₁.setTop (mkF m 0 #[.val (.int p1), .val (.int p2), .val u3] [])) t → Steps p.tables e below (s₁.setTop (entryFrame m #[(.int p1), (.int p2), u3] 3)) t := fun t k => castTop (ef_10 m p1 p2 hu3) k
  have pre1 : ∀ t, Steps p.tables e below (s₁.setTop (mkF m 17 #[.val (.int p1), .val (.int p2), .val u3] [(.int p1)])) t → Steps p.tables e below (s₁.setTop (entryFrame m #[(.int p1), (.int p2), u3] 3)) t := by
    intro t kt
    refine pre0 t ?_
    show Steps p.tables e below (s₁.setTop (mkF m 0 #[.val (.int p1), .val (.int p2), .val u3] [])) _
    refine XS.iloadN X0.here hx rfl (hb hby d10_0) rfl ?_
    show Steps p.tables e below (s₁.setTop (mkF m 1 #[.val (.int p1), .val (.int p2), .val u3] [(.int p1)])) _
    refine XS.ifNo X0.here hx rfl (hb hby d10_1) rfl ((if0 _ _).trans (flt h1).1) ?_
    show Steps p.tables e below (s₁.setTop (mkF m 4 #[.val (.int p1), .val (.int p2), .val u3] [])) _
    refine XS.iloadN X0.here hx rfl (hb hby d10_4) rfl ?_
    show Steps p.tables e below (s₁.setTop (mkF m 5 #[.val (.int p1), .val (.int p2), .val u3] [(.int p1)])) _
    refine XS.iloadN X0.here hx rfl (hb hby d10_5) rfl ?_
    show Steps p.tables e below (s₁.setTop (mkF m 6 #[.val (.int p1), .val (.int p2), .val u3] [(.int p2), (.int p1)])) _
    refine XS.icmpYes X0.here hx rfl (pc0 := 6) (pc' := 16) rfl (hb hby d10_6) rfl (tlt h2).1 (by decide) (by decide) ?_
    show Steps p.tables e below (s₁.setTop (mkF m 16 #[.val (.int p1), .val (.int p2), .val u3] [])) _
    refine XS.iloadN X0.here hx rfl (hb hby d10_16) rfl ?_
    exact kt
  obtain ⟨fs, hr, hrun, hended, hW, hsame⟩ := X0.leave (v := some (.int p1)) (fun h => by rw [Bd.returns] at h; cases h)
  refine ⟨_, _, pre1 _ ?_, hrun, hended, _, _, rfl, ?_, ⟨_, rfl⟩, hW, hsame.mono (by decide) (by decide)⟩
  · show Steps p.tables e below (s₁.setTop (mkF m 17 #[.val (.int p1), .val (.int p2), .val u3] [(.int p1)])) _
    exact retI X0 hx Bd.returns (hb hby d10_17) hr
  · show Qrm10 Z p1 p2 u3 h0 n0 _ s₁.heap _
    rw [e0]
    exact ⟨rfl, N0, rfl⟩
def Qrm9 (Z : State) (p1 : Int32) (p2 : Int32) (h0 : Heap) (n0 : Nat) (v : Option Value) (h : Heap) (L : List Loc) : Prop := v = some (.int p1) ∧ Fr n0 L ∧ h = h0
theorem d9_0 : decode jdk_31_method_17_code 0 = .ok (.iload_n 0, 1) := by decide +kernel
theorem d9_1 : decode jdk_31_method_17_code 1 = .ok (.iload_n 1, 1) := by decide +kernel
theorem d9_2 : decode jdk_31_method_17_code 2 = .ok (.aconst_null, 1) := by decide +kernel
theorem d9_3 : decode jdk_31_method_17_code 3 = .ok (.invokestatic 105, 3) := by decide +kernel
theorem d9_6 : decode jdk_31_method_17_code 6 = .ok (.ireturn, 1) := by decide +kernel
theorem ef_9 (m : MethodId) (x0 : Int32) (x1 : Int32) : entryFrame m #[(.int x0), (.int x1)] 2 = mkF m 0 #[.val (.int x0), .val (.int x1)] [] := by first | (simp [entryFrame, mkF, argsToLocals, Value.category]; done) | rfl
set_option maxRecDepth 65536 in
set_option maxHeartbeats 40000000 in
theorem rm9 (l : Launch) (Z : State) (a0 : Array Value) (hw : ∀ d ∈ tables_1, d.before a0 Z = true) (ws : List Jvm.Cond) (p1 : Int32) (p2 : Int32) (h0 : Heap) (n0 : Nat) (Z0 : n0 ≤ h0.size) (h1 : ¬ p1 < (0 : Int32)) (h2 : p1 < p2) :
    MetFree l (⟨"java/util/Objects", "checkIndex", "(II)I"⟩ : MethodName) (head1 (Jvm.Cond.code (⟨"java/util/Objects", "checkIndex", "(II)I"⟩ : MethodName) jdk_31_method_17_code 2 (some .int) :: ws) ({ frames := 1, cells := 0, slots := 0, locals := 14 } : Room)) (fun a U => a = #[(.int p1), (.int p2)] ∧ Z.Warmed39 U.vm ∧ U.heap = h0) (fun _ _ _ _ _ => True) (fun _ U o U' => ∃ v L, o = .returned v ∧ Qrm9 Z p1 p2 h0 n0 v U'.heap L ∧ FrameEnd U o U' L ({ frames := 1, cells := 0, slots := 0, locals := 14 } : Room).cells ({ frames := 1, cells := 0, slots := 0, locals := 14 } : Room).slots) := by
  refine MetFree.of_bodySF (plainFor_of_name pn_4) hisR ?_
  intro p e s m args below meth c s₁ Bd hml0 hP hK
  obtain ⟨rfl, hZ, hh⟩ := hP
  have hx := Bd.exec
  have hby := Bd.bytes
  have hml : c.maxLocals = 2 := hml0
  have hown : s.vm.findClass "java/util/Objects" = some m.cls := findClass_of_methodNamed Bd.named
  have hnm := (name_of_methodNamed Bd.named Bd.method).1
  have X0 : Stand p l e ({ frames := 1, cells := 0, slots := 0, locals := 14 } : Room) s m #[(.int p1), (.int p2)] below meth c s₁ [] 0 0 := Stand.of_body Bd
  have e0 : s₁.heap = h0 := by rw [← hh, Bd.state]; rfl
  have N0 := Fr.nil n0
  have pre0 : ∀ t, Steps p.tables e below (s₁.setTop (mkF m 0 #[.val (.int p1), .val (.int p2)] [])) t → Steps p.tables e below (s₁.setTop (entryFrame m #[(.int p1), (.int p2)] 2)) t := fun t k => castTop (ef_9 m p1 p2) k
  have pre1 : ∀ t, Steps p.tables e below (s₁.setTop (mkF m 3 #[.val (.int p1), .val (.int p2)] [.null, (.int p2), (.int p1)])) t → Steps p.tables e below (s₁.setTop (entryFrame m #[(.int p1), (.int p2)] 2)) t := by
    intro t kt
    refine pre0 t ?_
    show Steps p.tables e below (s₁.setTop (mkF m 0 #[.val (.int p1), .val (.int p2)] [])) _
    refine XS.iloadN X0.here hx rfl (hb hby d9_0) rfl ?_
    show Steps p.tables e below (s₁.setTop (mkF m 1 #[.val (.int p1), .val (.int p2)] [(.int p1)])) _
    refine XS.iloadN X0.here hx rfl (hb hby d9_1) rfl ?_
    show Steps p.tables e below (s₁.setTop (mkF m 2 #[.val (.int p1), .val (.int p2)] [(.int p2), (.int p1)])) _
    refine XS.aconstNull X0.here hx rfl (hb hby d9_2) ?_
    exact kt
  obtain ⟨_, _, ⟨T2, L2, k2, n2⟩, -, X2, ⟨Lc2, hQ2, l2, y2, z2⟩, st2⟩ := Jvm.LawKit.callS X0 hx (y := (⟨"jdk/internal/util/Preconditions", "checkIndex", "(IILjava/util/function/BiFunction;)I"⟩ : MethodName)) hown (mvT hZ (hw _ (List.mem_of_getElem? (i := 62) rfl))) (mvT hZ (hw _ (List.mem_of_getElem? (i := 63) rfl))) (mvT hZ (hw _ (List.mem_of_getElem? (i := 64) rfl))) (mvT hZ (hw _ (List.mem_of_getElem? (i := 65) rfl))) (by decide) (backOf (W := 0) (rm10 l Z a0 hw [] p1 p2 Value.null h0 n0 Z0 (rfl) (h1) (h2)) hZ (hw _ (List.mem_of_getElem? (i := 65) rfl)) (hw _ (List.mem_of_getElem? (i := 64) rfl)) (by decide) (by decide)) (g := (mkF m 3 #[.val (.int p1), .val (.int p2)] [.null, (.int p2), (.int p1)])) rfl (by rw [hml]; rfl) (argsL := [(.int p1), (.int p2), .null]) (rest := []) (lenOf pd_4 rfl) rfl (by show 2 * 0 + _ ≤ _; exact Nat.le_of_eq rfl) (hb hby d9_3) (fun _ _ => ⟨rfl, e0, (by decide : 0 + 0 ≤ _), (by decide : 0 + 0 ≤ _)⟩)
  dsimp only [Pt.U, Pt.locs, Pt.cells, Pt.slots] at X2 l2 y2 z2 st2 hQ2
  subst l2 y2 z2
  obtain ⟨rfl, N2q, e2⟩ := hQ2
  have N2 := Fr.app N0 N2q
  have pre2 : ∀ t, Steps p.tables e below (T2.setTop (mkF m 6 #[.val (.int p1), .val (.int p2)] [(.int p1)])) t → Steps p.tables e below (s₁.setTop (entryFrame m #[(.int p1), (.int p2)] 2)) t := fun t kt => pre1 t (st2 _ kt)
  obtain ⟨fs, hr, hrun, hended, hW, hsame⟩ := X2.leave (v := some (.int p1)) (fun h => by rw [Bd.returns] at h; cases h)
  refine ⟨_, _, pre2 _ ?_, hrun, hended, _, _, rfl, ?_, ⟨_, rfl⟩, hW, hsame.mono (by decide) (by decide)⟩
  · show Steps p.tables e below (T2.setTop (mkF m 6 #[.val (.int p1), .val (.int p2)] [(.int p1)])) _
    exact retI X2 hx Bd.returns (hb hby d9_6) hr
  · show Qrm9 Z p1 p2 h0 n0 _ T2.heap _
    rw [e2]
    exact ⟨rfl, N2, rfl⟩
def Qrm7 (Z : State) (a1 : Addr) (a2 : Addr) (p3 : Int32) (a4 : Addr) (p5 : Int32) (h0 : Heap) (n0 : Nat) (v : Option Value) (h : Heap) (L : List Loc) : Prop := v = none ∧ Fr n0 L ∧ Keep h0 h [a1] ∧ Exa Z h a1 "com/example/pourcode/pourcode/csv/CsvRecord" ∧ Fld Z h a1 "com/example/pourcode/pourcode/csv/CsvRecord" "values" "[Ljava/lang/String;" (.ref a4) ∧ Fld Z h a1 "com/example/pourcode/pourcode/csv/CsvRecord" "size" "I" (.int p5)
theorem d7_0 : decode prog_13_method_1_code 0 = .ok (.aload_n 0, 1) := by decide +kernel
theorem d7_1 : decode prog_13_method_1_code 1 = .ok (.invokespecial 1, 3) := by decide +kernel
theorem d7_4 : decode prog_13_method_1_code 4 = .ok (.aload_n 0, 1) := by decide +kernel
theorem d7_5 : decode prog_13_method_1_code 5 = .ok (.aload_n 1, 1) := by decide +kernel
theorem d7_6 : decode prog_13_method_1_code 6 = .ok (.putfield 7, 3) := by decide +kernel
theorem d7_9 : decode prog_13_method_1_code 9 = .ok (.aload_n 0, 1) := by decide +kernel
theorem d7_10 : decode prog_13_method_1_code 10 = .ok (.iload_n 2, 1) := by decide +kernel
theorem d7_11 : decode prog_13_method_1_code 11 = .ok (.putfield 13, 3) := by decide +kernel
theorem d7_14 : decode prog_13_method_1_code 14 = .ok (.aload_n 0, 1) := by decide +kernel
theorem d7_15 : decode prog_13_method_1_code 15 = .ok (.aload_n 3, 1) := by decide +kernel
theorem d7_16 : decode prog_13_method_1_code 16 = .ok (.putfield 17, 3) := by decide +kernel
theorem d7_19 : decode prog_13_method_1_code 19 = .ok (.aload_n 0, 1) := by decide +kernel
theorem d7_20 : decode prog_13_method_1_code 20 = .ok (.iload 4, 2) := by decide +kernel
theorem d7_22 : decode prog_13_method_1_code 22 = .ok (.putfield 21, 3) := by decide +kernel
theorem d7_25 : decode prog_13_method_1_code 25 = .ok (.aload_n 0, 1) := by decide +kernel
theorem d7_26 : decode prog_13_method_1_code 26 = .ok (.aload 5, 2) := by decide +kernel
theorem d7_28 : decode prog_13_method_1_code 28 = .ok (.putfield 24, 3) := by decide +kernel
theorem d7_31 : decode prog_13_method_1_code 31 = .ok (.return_, 1) := by decide +kernel
theorem ef_7 (m : MethodId) (x0 : Addr) (x1 : Addr) (x2 : Int32) (x3 : Addr) (x4 : Int32) : entryFrame m #[(.ref x0), (.ref x1), (.int x2), (.ref x3), (.int x4), .null] 6 = mkF m 0 #[.val (.ref x0), .val (.ref x1), .val (.int x2), .val (.ref x3), .val (.int x4), .val .null] [] := by first | (simp [entryFrame, mkF, argsToLocals, Value.category]; done) | rfl
set_option maxRecDepth 65536 in
set_option maxHeartbeats 40000000 in
theorem rm7 (l : Launch) (Z : State) (a0 : Array Value) (hw : ∀ d ∈ tables_1, d.before a0 Z = true) (ws : List Jvm.Cond) (a1 : Addr) (a2 : Addr) (p3 : Int32) (a4 : Addr) (p5 : Int32) (h0 : Heap) (n0 : Nat) (Z0 : n0 ≤ h0.size) (E_a1 : Exa Z h0 a1 "com/example/pourcode/pourcode/csv/CsvRecord") (F_file_a1 : Fld Z h0 a1 "com/example/pourcode/pourcode/csv/CsvRecord" "file" "Ljava/lang/String;" .null) (F_line_a1 : Fld Z h0 a1 "com/example/pourcode/pourcode/csv/CsvRecord" "line" "I" (.int (0 : Int32))) (F_values_a1 : Fld Z h0 a1 "com/example/pourcode/pourcode/csv/CsvRecord" "values" "[Ljava/lang/String;" .null) (F_size_a1 : Fld Z h0 a1 "com/example/pourcode/pourcode/csv/CsvRecord" "size" "I" (.int (0 : Int32))) (F_text_a1 : Fld Z h0 a1 "com/example/pourcode/pourcode/csv/CsvRecord" "text" "[B" .null) (ge_a1 : n0 ≤ a1) :
    MetFree l (⟨"com/example/pourcode/pourcode/csv/CsvRecord", "<init>", "(Ljava/lang/String;I[Ljava/lang/String;I[B)V"⟩ : MethodName) (head1 (Jvm.Cond.code (⟨"com/example/pourcode/pourcode/csv/CsvRecord", "<init>", "(Ljava/lang/String;I[Ljava/lang/String;I[B)V"⟩ : MethodName) prog_13_method_1_code 6 none :: ws) ({ frames := 1, cells := 0, slots := 0, locals := 12 } : Room)) (fun a U => a = #[(.ref a1), (.ref a2), (.int p3), (.ref a4), (.int p5), .null] ∧ Z.Warmed39 U.vm ∧ U.heap = h0) (fun _ _ _ _ _ => True) (fun _ U o U' => ∃ v L, o = .returned v ∧ Qrm7 Z a1 a2 p3 a4 p5 h0 n0 v U'.heap L ∧ FrameEnd U o U' L ({ frames := 1, cells := 0, slots := 0, locals := 12 } : Room).cells ({ frames := 1, cells := 0, slots := 0, locals := 12 } : Room).slots) := by
  refine MetFree.of_bodySF (plainFor_of_name pn_5) hisR ?_
  intro p e s m args below meth c s₁ Bd hml0 hP hK
  obtain ⟨rfl, hZ, hh⟩ := hP
  have hx := Bd.exec
  have hby := Bd.bytes
  have hml : c.maxLocals = 6 := hml0
  have hown : s.vm.findClass "com/example/pourcode/pourcode/csv/CsvRecord" = some m.cls := findClass_of_methodNamed Bd.named
  have hnm := (name_of_methodNamed Bd.named Bd.method).1
  have X0 : Stand p l e ({ frames := 1, cells := 0, slots := 0, locals := 12 } : Room) s m #[(.ref a1), (.ref a2), (.int p3), (.ref a4), (.int p5), .null] below meth c s₁ [] 0 0 := Stand.of_body Bd
  have e0 : s₁.heap = h0 := by rw [← hh, Bd.state]; rfl
  have N0 := Fr.nil n0
  have pre0 : ∀ t, Steps p.tables e below (s₁.setTop (mkF m 0 #[.val (.ref a1), .val (.ref a2), .val (.int p3), .val (.ref a4), .val (.int p5), .val .null] [])) t → Steps p.tables e below (s₁.setTop (entryFrame m #[(.ref a1), (.ref a2), (.int p3), (.ref a4), (.int p5), .null] 6)) t := fun t k => castTop (ef_7 m a1 a2 p3 a4 p5) k
  have pre1 : ∀ t, Steps p.tables e below (s₁.setTop (mkF m 1 #[.val (.ref a1), .val (.ref a2), .val (.int p3), .val (.ref a4), .val (.int p5), .val .null] [(.ref a1)])) t → Steps p.tables e below (s₁.setTop (entryFrame m #[(.ref a1), (.ref a2), (.int p3), (.ref a4), (.int p5), .null] 6)) t := by
    intro t kt
    refine pre0 t ?_
    show Steps p.tables e below (s₁.setTop (mkF m 0 #[.val (.ref a1), .val (.ref a2), .val (.int p3), .val (.ref a4), .val (.int p5), .val .null] [])) _
    refine XS.aloadN X0.here hx rfl (hb hby d7_0) rfl rfl ?_
    exact kt
  obtain ⟨T2, X2, e2, st2⟩ := initO X0 hx hZ hown (hw _ (List.mem_of_getElem? (i := 42) rfl)) (hw _ (List.mem_of_getElem? (i := 24) rfl)) (hw _ (List.mem_of_getElem? (i := 25) rfl)) e0 (g := (mkF m 1 #[.val (.ref a1), .val (.ref a2), .val (.int p3), .val (.ref a4), .val (.int p5), .val .null] [(.ref a1)])) rfl (by rw [hml]; rfl) rfl (hb hby d7_1) (by decide) (W := 0) (by show 2 * 0 + _ ≤ _; exact Nat.le_of_eq rfl) (by decide)
  have pre2 : ∀ t, Steps p.tables e below (T2.setTop (mkF m 4 #[.val (.ref a1), .val (.ref a2), .val (.int p3), .val (.ref a4), .val (.int p5), .val .null] [])) t → Steps p.tables e below (s₁.setTop (entryFrame m #[(.ref a1), (.ref a2), (.int p3), (.ref a4), (.int p5), .null] 6)) t := fun t kt => pre1 t (st2 _ kt)
  have pre3 : ∀ t, Steps p.tables e below (T2.setTop (mkF m 6 #[.val (.ref a1), .val (.ref a2), .val (.int p3), .val (.ref a4), .val (.int p5), .val .null] [(.ref a2), (.ref a1)])) t → Steps p.tables e below (s₁.setTop (entryFrame m #[(.ref a1), (.ref a2), (.int p3), (.ref a4), (.int p5), .null] 6)) t := by
    intro t kt
    refine pre2 t ?_
    show Steps p.tables e below (T2.setTop (mkF m 4 #[.val (.ref a1), .val (.ref a2), .val (.int p3), .val (.ref a4), .val (.int p5), .val .null] [])) _
    refine XS.aloadN X2.here hx rfl (hb hby d7_4) rfl rfl ?_
    show Steps p.tables e below (T2.setTop (mkF m 5 #[.val (.ref a1), .val (.ref a2), .val (.int p3), .val (.ref a4), .val (.int p5), .val .null] [(.ref a1)])) _
    refine XS.aloadN X2.here hx rfl (hb hby d7_5) rfl rfl ?_
    exact kt
  obtain ⟨T4, h4, X4, e4, W4, st4⟩ := putF X2 hx hZ hown (host := "") (Or.inl (hw _ (List.mem_of_getElem? (i := 43) rfl))) Via.refl e2 F_file_a1 E_a1 (Or.inr ⟨(hw _ (List.mem_of_getElem? (i := 44) rfl)), rfl, hnm⟩) (hw _ (List.mem_of_getElem? (i := 34) rfl)) (ty := (.object "java/lang/String")) (by decide) rfl rfl (g := (mkF m 6 #[.val (.ref a1), .val (.ref a2), .val (.int p3), .val (.ref a4), .val (.int p5), .val .null] [(.ref a2), (.ref a1)])) rfl rfl (hb hby d7_6)
  have N4 := Fr.snoc X4 N0 ge_a1
  have K4 : Keep h0 h4 [a1] := (Keep.refl h0 [a1]).wr W4 (Or.inl (List.mem_of_getElem? (i := 0) rfl))
  have Z4 : n0 ≤ h4.size := Nat.le_trans Z0 (Keep.of_wr W4).1
  have E_a1_5 := E_a1.wr W4
  have F_file_a1_6 := F_file_a1.same W4
  have F_line_a1_7 := F_line_a1.other W4 (Or.inr (slot_ne (Or.inr (hw _ (List.mem_of_getElem? (i := 46) rfl))) (Or.inr (hw _ (List.mem_of_getElem? (i := 44) rfl))) (by decide) (t := .int) (t' := (.object "java/lang/String")) (by decide) (by decide)))
  have F_values_a1_8 := F_values_a1.other W4 (Or.inr (slot_ne (Or.inr (hw _ (List.mem_of_getElem? (i := 48) rfl))) (Or.inr (hw _ (List.mem_of_getElem? (i := 44) rfl))) (by decide) (t := (.array (.object "java/lang/String"))) (t' := (.object "java/lang/String")) (by decide) (by decide)))
  have F_size_a1_9 := F_size_a1.other W4 (Or.inr (slot_ne (Or.inr (hw _ (List.mem_of_getElem? (i := 50) rfl))) (Or.inr (hw _ (List.mem_of_getElem? (i := 44) rfl))) (by decide) (t := .int) (t' := (.object "java/lang/String")) (by decide) (by decide)))
  have F_text_a1_10 := F_text_a1.other W4 (Or.inr (slot_ne (Or.inr (hw _ (List.mem_of_getElem? (i := 52) rfl))) (Or.inr (hw _ (List.mem_of_getElem? (i := 44) rfl))) (by decide) (t := (.array .byte)) (t' := (.object "java/lang/String")) (by decide) (by decide)))
  have pre4 : ∀ t, Steps p.tables e below (T4.setTop (mkF m 9 #[.val (.ref a1), .val (.ref a2), .val (.int p3), .val (.ref a4), .val (.int p5), .val .null] [])) t → Steps p.tables e below (s₁.setTop (entryFrame m #[(.ref a1), (.ref a2), (.int p3), (.ref a4), (.int p5), .null] 6)) t := fun t kt => pre3 t (st4 _ kt)
  have pre11 : ∀ t, Steps p.tables e below (T4.setTop (mkF m 11 #[.val (.ref a1), .val (.ref a2), .val (.int p3), .val (.ref a4), .val (.int p5), .val .null] [(.int p3), (.ref a1)])) t → Steps p.tables e below (s₁.setTop (entryFrame m #[(.ref a1), (.ref a2), (.int p3), (.ref a4), (.int p5), .null] 6)) t := by
    intro t kt
    refine pre4 t ?_
    show Steps p.tables e below (T4.setTop (mkF m 9 #[.val (.ref a1), .val (.ref a2), .val (.int p3), .val (.ref a4), .val (.int p5), .val .null] [])) _
    refine XS.aloadN X4.here hx rfl (hb hby d7_9) rfl rfl ?_
    show Steps p.tables e below (T4.setTop (mkF m 10 #[.val (.ref a1), .val (.ref a2), .val (.int p3), .val (.ref a4), .val (.int p5), .val .null] [(.ref a1)])) _
    refine XS.iloadN X4.here hx rfl (hb hby d7_10) rfl ?_
    exact kt
  obtain ⟨T12, h12, X12, e12, W12, st12⟩ := putF X4 hx hZ hown (host := "") (Or.inl (hw _ (List.mem_of_getElem? (i := 45) rfl))) Via.refl e4 F_line_a1_7 E_a1_5 (Or.inr ⟨(hw _ (List.mem_of_getElem? (i := 46) rfl)), rfl, hnm⟩) (hw _ (List.mem_of_getElem? (i := 34) rfl)) (ty := .int) (by decide) rfl rfl (g := (mkF m 11 #[.val (.ref a1), .val (.ref a2), .val (.int p3), .val (.ref a4), .val (.int p5), .val .null] [(.int p3), (.ref a1)])) rfl rfl (hb hby d7_11)
  have N12 := Fr.snoc X12 N4 ge_a1
  have K12 : Keep h0 h12 [a1] := K4.wr W12 (Or.inl (List.mem_of_getElem? (i := 0) rfl))
  have Z12 : n0 ≤ h12.size := Nat.le_trans Z4 (Keep.of_wr W12).1
  have E_a1_13 := E_a1_5.wr W12
  have F_file_a1_14 := F_file_a1_6.other W12 (Or.inr (slot_ne (Or.inr (hw _ (List.mem_of_getElem? (i := 44) rfl))) (Or.inr (hw _ (List.mem_of_getElem? (i := 46) rfl))) (by decide) (t := (.object "java/lang/String")) (t' := .int) (by decide) (by decide)))
  have F_line_a1_15 := F_line_a1_7.same W12
  have F_values_a1_16 := F_values_a1_8.other W12 (Or.inr (slot_ne (Or.inr (hw _ (List.mem_of_getElem? (i := 48) rfl))) (Or.inr (hw _ (List.mem_of_getElem? (i := 46) rfl))) (by decide) (t := (.array (.object "java/lang/String"))) (t' := .int) (by decide) (by decide)))
  have F_size_a1_17 := F_size_a1_9.other W12 (Or.inr (slot_ne (Or.inr (hw _ (List.mem_of_getElem? (i := 50) rfl))) (Or.inr (hw _ (List.mem_of_getElem? (i := 46) rfl))) (by decide) (t := .int) (t' := .int) (by decide) (by decide)))
  have F_text_a1_18 := F_text_a1_10.other W12 (Or.inr (slot_ne (Or.inr (hw _ (List.mem_of_getElem? (i := 52) rfl))) (Or.inr (hw _ (List.mem_of_getElem? (i := 46) rfl))) (by decide) (t := (.array .byte)) (t' := .int) (by decide) (by decide)))
  have pre12 : ∀ t, Steps p.tables e below (T12.setTop (mkF m 14 #[.val (.ref a1), .val (.ref a2), .val (.int p3), .val (.ref a4), .val (.int p5), .val .null] [])) t → Steps p.tables e below (s₁.setTop (entryFrame m #[(.ref a1), (.ref a2), (.int p3), (.ref a4), (.int p5), .null] 6)) t := fun t kt => pre11 t (st12 _ kt)
  have pre19 : ∀ t, Steps p.tables e below (T12.setTop (mkF m 16 #[.val (.ref a1), .val (.ref a2), .val (.int p3), .val (.ref a4), .val (.int p5), .val .null] [(.ref a4), (.ref a1)])) t → Steps p.tables e below (s₁.setTop (entryFrame m #[(.ref a1), (.ref a2), (.int p3), (.ref a4), (.int p5), .null] 6)) t := by
    intro t kt
    refine pre12 t ?_
    show Steps p.tables e below (T12.setTop (mkF m 14 #[.val (.ref a1), .val (.ref a2), .val (.int p3), .val (.ref a4), .val (.int p5), .val .null] [])) _
    refine XS.aloadN X12.here hx rfl (hb hby d7_14) rfl rfl ?_
    show Steps p.tables e below (T12.setTop (mkF m 15 #[.val (.ref a1), .val (.ref a2), .val (.int p3), .val (.ref a4), .val (.int p5), .val .null] [(.ref a1)])) _
    refine XS.aloadN X12.here hx rfl (hb hby d7_15) rfl rfl ?_
    exact kt
  obtain ⟨T20, h20, X20, e20, W20, st20⟩ := putF X12 hx hZ hown (host := "") (Or.inl (hw _ (List.mem_of_getElem? (i := 47) rfl))) Via.refl e12 F_values_a1_16 E_a1_13 (Or.inr ⟨(hw _ (List.mem_of_getElem? (i := 48) rfl)), rfl, hnm⟩) (hw _ (List.mem_of_getElem? (i := 34) rfl)) (ty := (.array (.object "java/lang/String"))) (by decide) rfl rfl (g := (mkF m 16 #[.val (.ref a1), .val (.ref a2), .val (.int p3), .val (.ref a4), .val (.int p5), .val .null] [(.ref a4), (.ref a1)])) rfl rfl (hb hby d7_16)
  have N20 := Fr.snoc X20 N12 ge_a1
  have K20 : Keep h0 h20 [a1] := K12.wr W20 (Or.inl (List.mem_of_getElem? (i := 0) rfl))
  have Z20 : n0 ≤ h20.size := Nat.le_trans Z12 (Keep.of_wr W20).1
  have E_a1_21 := E_a1_13.wr W20
  have F_file_a1_22 := F_file_a1_14.other W20 (Or.inr (slot_ne (Or.inr (hw _ (List.mem_of_getElem? (i := 44) rfl))) (Or.inr (hw _ (List.mem_of_getElem? (i := 48) rfl))) (by decide) (t := (.object "java/lang/String")) (t' := (.array (.object "java/lang/String"))) (by decide) (by decide)))
  have F_line_a1_23 := F_line_a1_15.other W20 (Or.inr (slot_ne (Or.inr (hw _ (List.mem_of_getElem? (i := 46) rfl))) (Or.inr (hw _ (List.mem_of_getElem? (i := 48) rfl))) (by decide) (t := .int) (t' := (.array (.object "java/lang/String"))) (by decide) (by decide)))
  have F_values_a1_24 := F_values_a1_16.same W20
  have F_size_a1_25 := F_size_a1_17.other W20 (Or.inr (slot_ne (Or.inr (hw _ (List.mem_of_getElem? (i := 50) rfl))) (Or.inr (hw _ (List.mem_of_getElem? (i := 48) rfl))) (by decide) (t := .int) (t' := (.array (.object "java/lang/String"))) (by decide) (by decide)))
  have F_text_a1_26 := F_text_a1_18.other W20 (Or.inr (slot_ne (Or.inr (hw _ (List.mem_of_getElem? (i := 52) rfl))) (Or.inr (hw _ (List.mem_of_getElem? (i := 48) rfl))) (by decide) (t := (.array .byte)) (t' := (.array (.object "java/lang/String"))) (by decide) (by decide)))
  have pre20 : ∀ t, Steps p.tables e below (T20.setTop (mkF m 19 #[.val (.ref a1), .val (.ref a2), .val (.int p3), .val (.ref a4), .val (.int p5), .val .null] [])) t → Steps p.tables e below (s₁.setTop (entryFrame m #[(.ref a1), (.ref a2), (.int p3), (.ref a4), (.int p5), .null] 6)) t := fun t kt => pre19 t (st20 _ kt)
  have pre27 : ∀ t, Steps p.tables e below (T20.setTop (mkF m 22 #[.val (.ref a1), .val (.ref a2), .val (.int p3), .val (.ref a4), .val (.int p5), .val .null] [(.int p5), (.ref a1)])) t → Steps p.tables e below (s₁.setTop (entryFrame m #[(.ref a1), (.ref a2), (.int p3), (.ref a4), (.int p5), .null] 6)) t := by
    intro t kt
    refine pre20 t ?_
    show Steps p.tables e below (T20.setTop (mkF m 19 #[.val (.ref a1), .val (.ref a2), .val (.int p3), .val (.ref a4), .val (.int p5), .val .null] [])) _
    refine XS.aloadN X20.here hx rfl (hb hby d7_19) rfl rfl ?_
    show Steps p.tables e below (T20.setTop (mkF m 20 #[.val (.ref a1), .val (.ref a2), .val (.int p3), .val (.ref a4), .val (.int p5), .val .null] [(.ref a1)])) _
    refine XS.iload X20.here hx rfl (hb hby d7_20) rfl ?_
    exact kt
  obtain ⟨T28, h28, X28, e28, W28, st28⟩ := putF X20 hx hZ hown (host := "") (Or.inl (hw _ (List.mem_of_getElem? (i := 49) rfl))) Via.refl e20 F_size_a1_25 E_a1_21 (Or.inr ⟨(hw _ (List.mem_of_getElem? (i := 50) rfl)), rfl, hnm⟩) (hw _ (List.mem_of_getElem? (i := 34) rfl)) (ty := .int) (by decide) rfl rfl (g := (mkF m 22 #[.val (.ref a1), .val (.ref a2), .val (.int p3), .val (.ref a4), .val (.int p5), .val .null] [(.int p5), (.ref a1)])) rfl rfl (hb hby d7_22)
  have N28 := Fr.snoc X28 N20 ge_a1
  have K28 : Keep h0 h28 [a1] := K20.wr W28 (Or.inl (List.mem_of_getElem? (i := 0) rfl))
  have Z28 : n0 ≤ h28.size := Nat.le_trans Z20 (Keep.of_wr W28).1
  have E_a1_29 := E_a1_21.wr W28
  have F_file_a1_30 := F_file_a1_22.other W28 (Or.inr (slot_ne (Or.inr (hw _ (List.mem_of_getElem? (i := 44) rfl))) (Or.inr (hw _ (List.mem_of_getElem? (i := 50) rfl))) (by decide) (t := (.object "java/lang/String")) (t' := .int) (by decide) (by decide)))
  have F_line_a1_31 := F_line_a1_23.other W28 (Or.inr (slot_ne (Or.inr (hw _ (List.mem_of_getElem? (i := 46) rfl))) (Or.inr (hw _ (List.mem_of_getElem? (i := 50) rfl))) (by decide) (t := .int) (t' := .int) (by decide) (by decide)))
  have F_values_a1_32 := F_values_a1_24.other W28 (Or.inr (slot_ne (Or.inr (hw _ (List.mem_of_getElem? (i := 48) rfl))) (Or.inr (hw _ (List.mem_of_getElem? (i := 50) rfl))) (by decide) (t := (.array (.object "java/lang/String"))) (t' := .int) (by decide) (by decide)))
  have F_size_a1_33 := F_size_a1_25.same W28
  have F_text_a1_34 := F_text_a1_26.other W28 (Or.inr (slot_ne (Or.inr (hw _ (List.mem_of_getElem? (i := 52) rfl))) (Or.inr (hw _ (List.mem_of_getElem? (i := 50) rfl))) (by decide) (t := (.array .byte)) (t' := .int) (by decide) (by decide)))
  have pre28 : ∀ t, Steps p.tables e below (T28.setTop (mkF m 25 #[.val (.ref a1), .val (.ref a2), .val (.int p3), .val (.ref a4), .val (.int p5), .val .null] [])) t → Steps p.tables e below (s₁.setTop (entryFrame m #[(.ref a1), (.ref a2), (.int p3), (.ref a4), (.int p5), .null] 6)) t := fun t kt => pre27 t (st28 _ kt)
  have pre35 : ∀ t, Steps p.tables e below (T28.setTop (mkF m 28 #[.val (.ref a1), .val (.ref a2), .val (.int p3), .val (.ref a4), .val (.int p5), .val .null] [.null, (.ref a1)])) t → Steps p.tables e below (s₁.setTop (entryFrame m #[(.ref a1), (.ref a2), (.int p3), (.ref a4), (.int p5), .null] 6)) t := by
    intro t kt
    refine pre28 t ?_
    show Steps p.tables e below (T28.setTop (mkF m 25 #[.val (.ref a1), .val (.ref a2), .val (.int p3), .val (.ref a4), .val (.int p5), .val .null] [])) _
    refine XS.aloadN X28.here hx rfl (hb hby d7_25) rfl rfl ?_
    show Steps p.tables e below (T28.setTop (mkF m 26 #[.val (.ref a1), .val (.ref a2), .val (.int p3), .val (.ref a4), .val (.int p5), .val .null] [(.ref a1)])) _
    refine XS.aload X28.here hx rfl (hb hby d7_26) rfl rfl ?_
    exact kt
  obtain ⟨T36, h36, X36, e36, W36, st36⟩ := putF X28 hx hZ hown (host := "") (Or.inl (hw _ (List.mem_of_getElem? (i := 51) rfl))) Via.refl e28 F_text_a1_34 E_a1_29 (Or.inr ⟨(hw _ (List.mem_of_getElem? (i := 52) rfl)), rfl, hnm⟩) (hw _ (List.mem_of_getElem? (i := 34) rfl)) (ty := (.array .byte)) (by decide) rfl rfl (g := (mkF m 28 #[.val (.ref a1), .val (.ref a2), .val (.int p3), .val (.ref a4), .val (.int p5), .val .null] [.null, (.ref a1)])) rfl rfl (hb hby d7_28)
  have N36 := Fr.snoc X36 N28 ge_a1
  have K36 : Keep h0 h36 [a1] := K28.wr W36 (Or.inl (List.mem_of_getElem? (i := 0) rfl))
  have Z36 : n0 ≤ h36.size := Nat.le_trans Z28 (Keep.of_wr W36).1
  have E_a1_37 := E_a1_29.wr W36
  have F_file_a1_38 := F_file_a1_30.other W36 (Or.inr (slot_ne (Or.inr (hw _ (List.mem_of_getElem? (i := 44) rfl))) (Or.inr (hw _ (List.mem_of_getElem? (i := 52) rfl))) (by decide) (t := (.object "java/lang/String")) (t' := (.array .byte)) (by decide) (by decide)))
  have F_line_a1_39 := F_line_a1_31.other W36 (Or.inr (slot_ne (Or.inr (hw _ (List.mem_of_getElem? (i := 46) rfl))) (Or.inr (hw _ (List.mem_of_getElem? (i := 52) rfl))) (by decide) (t := .int) (t' := (.array .byte)) (by decide) (by decide)))
  have F_values_a1_40 := F_values_a1_32.other W36 (Or.inr (slot_ne (Or.inr (hw _ (List.mem_of_getElem? (i := 48) rfl))) (Or.inr (hw _ (List.mem_of_getElem? (i := 52) rfl))) (by decide) (t := (.array (.object "java/lang/String"))) (t' := (.array .byte)) (by decide) (by decide)))
  have F_size_a1_41 := F_size_a1_33.other W36 (Or.inr (slot_ne (Or.inr (hw _ (List.mem_of_getElem? (i := 50) rfl))) (Or.inr (hw _ (List.mem_of_getElem? (i := 52) rfl))) (by decide) (t := .int) (t' := (.array .byte)) (by decide) (by decide)))
  have F_text_a1_42 := F_text_a1_34.same W36
  have pre36 : ∀ t, Steps p.tables e below (T36.setTop (mkF m 31 #[.val (.ref a1), .val (.ref a2), .val (.int p3), .val (.ref a4), .val (.int p5), .val .null] [])) t → Steps p.tables e below (s₁.setTop (entryFrame m #[(.ref a1), (.ref a2), (.int p3), (.ref a4), (.int p5), .null] 6)) t := fun t kt => pre35 t (st36 _ kt)
  obtain ⟨fs, hr, hrun, hended, hW, hsame⟩ := X36.leave (v := none) (fun _ => rfl)
  refine ⟨_, _, pre36 _ ?_, hrun, hended, _, _, rfl, ?_, ⟨_, rfl⟩, hW, hsame.mono (by decide) (by decide)⟩
  · show Steps p.tables e below (T36.setTop (mkF m 31 #[.val (.ref a1), .val (.ref a2), .val (.int p3), .val (.ref a4), .val (.int p5), .val .null] [])) _
    exact X36.returnOut hx Bd.returns (hb hby d7_31) hr
  · show Qrm7 Z a1 a2 p3 a4 p5 h0 n0 _ T36.heap _
    rw [e36]
    exact ⟨rfl, N36, K36, E_a1_37, F_values_a1_40, F_size_a1_41⟩
def Qrm8a (Z : State) (a1 : Addr) (p2 : Int32) (b1 : Addr) (w1 : Int32) (kd : ClassId) (ln : Int32) (vs : List Value) (uz : Value) (h0 : Heap) (n0 : Nat) (v : Option Value) (h : Heap) (L : List Loc) : Prop := v = some uz ∧ Fr n0 L ∧ h = h0
theorem d8_0 : decode prog_13_method_4_code 0 = .ok (.iload_n 1, 1) := by decide +kernel
theorem d8_1 : decode prog_13_method_4_code 1 = .ok (.aload_n 0, 1) := by decide +kernel
theorem d8_2 : decode prog_13_method_4_code 2 = .ok (.getfield 17, 3) := by decide +kernel
theorem d8_5 : decode prog_13_method_4_code 5 = .ok (.arraylength, 1) := by decide +kernel
theorem d8_6 : decode prog_13_method_4_code 6 = .ok (.invokestatic 28, 3) := by decide +kernel
theorem d8_9 : decode prog_13_method_4_code 9 = .ok (.pop, 1) := by decide +kernel
theorem d8_10 : decode prog_13_method_4_code 10 = .ok (.iload_n 1, 1) := by decide +kernel
theorem d8_11 : decode prog_13_method_4_code 11 = .ok (.aload_n 0, 1) := by decide +kernel
theorem d8_12 : decode prog_13_method_4_code 12 = .ok (.getfield 21, 3) := by decide +kernel
theorem d8_15 : decode prog_13_method_4_code 15 = .ok (.if_icmp .ge 12, 3) := by decide +kernel
theorem d8_18 : decode prog_13_method_4_code 18 = .ok (.aload_n 0, 1) := by decide +kernel
theorem d8_19 : decode prog_13_method_4_code 19 = .ok (.getfield 17, 3) := by decide +kernel
theorem d8_22 : decode prog_13_method_4_code 22 = .ok (.iload_n 1, 1) := by decide +kernel
theorem d8_23 : decode prog_13_method_4_code 23 = .ok (.aaload, 1) := by decide +kernel
theorem d8_24 : decode prog_13_method_4_code 24 = .ok (.goto 5, 3) := by decide +kernel
theorem d8_29 : decode prog_13_method_4_code 29 = .ok (.areturn, 1) := by decide +kernel
theorem ef_8 (m : MethodId) (x0 : Addr) (x1 : Int32) : entryFrame m #[(.ref x0), (.int x1)] 2 = mkF m 0 #[.val (.ref x0), .val (.int x1)] [] := by first | (simp [entryFrame, mkF, argsToLocals, Value.category]; done) | rfl
set_option maxRecDepth 65536 in
set_option maxHeartbeats 40000000 in
theorem rm8a (l : Launch) (Z : State) (a0 : Array Value) (hw : ∀ d ∈ tables_1, d.before a0 Z = true) (ws : List Jvm.Cond) (a1 : Addr) (p2 : Int32) (b1 : Addr) (w1 : Int32) (kd : ClassId) (ln : Int32) (vs : List Value) (uz : Value) (h0 : Heap) (n0 : Nat) (Z0 : n0 ≤ h0.size) (F_values_a1 : Fld Z h0 a1 "com/example/pourcode/pourcode/csv/CsvRecord" "values" "[Ljava/lang/String;" (.ref b1)) (F_size_a1 : Fld Z h0 a1 "com/example/pourcode/pourcode/csv/CsvRecord" "size" "I" (.int w1)) (V_b1 : Arv Z h0 b1 kd (.object "java/lang/String") ln vs .null) (h1 : ¬ p2 < (0 : Int32)) (h2 : p2 < ln) (hlt : p2 < w1) (he : vs.getD p2.toNatClampNeg Value.null = uz) (hu : uz.isRef = true) :
    MetFree l (⟨"com/example/pourcode/pourcode/csv/CsvRecord", "get", "(I)Ljava/lang/String;"⟩ : MethodName) (head1 (Jvm.Cond.code (⟨"com/example/pourcode/pourcode/csv/CsvRecord", "get", "(I)Ljava/lang/String;"⟩ : MethodName) prog_13_method_4_code 2 (some (.object "java/lang/String")) :: ws) ({ frames := 2, cells := 0, slots := 0, locals := 27 } : Room)) (fun a U => a = #[(.ref a1), (.int p2)] ∧ Z.Warmed39 U.vm ∧ U.heap = h0) (fun _ _ _ _ _ => True) (fun _ U o U' => ∃ v L, o = .returned v ∧ Qrm8a Z a1 p2 b1 w1 kd ln vs uz h0 n0 v U'.heap L ∧ FrameEnd U o U' L ({ frames := 2, cells := 0, slots := 0, locals := 27 } : Room).cells ({ frames := 2, cells := 0, slots := 0, locals := 27 } : Room).slots) := by
  refine MetFree.of_bodySF (plainFor_of_name pn_5) hisR ?_
  intro p e s m args below meth c s₁ Bd hml0 hP hK
  obtain ⟨rfl, hZ, hh⟩ := hP
  have hx := Bd.exec
  have hby := Bd.bytes
  have hml : c.maxLocals = 2 := hml0
  have hown : s.vm.findClass "com/example/pourcode/pourcode/csv/CsvRecord" = some m.cls := findClass_of_methodNamed Bd.named
  have hnm := (name_of_methodNamed Bd.named Bd.method).1
  have X0 : Stand p l e ({ frames := 2, cells := 0, slots := 0, locals := 27 } : Room) s m #[(.ref a1), (.int p2)] below meth c s₁ [] 0 0 := Stand.of_body Bd
  have e0 : s₁.heap = h0 := by rw [← hh, Bd.state]; rfl
  have N0 := Fr.nil n0
  have pre0 : ∀ t, Steps p.tables e below (s₁.setTop (mkF m 0 #[.val (.ref a1), .val (.int p2)] [])) t → Steps p.tables e below (s₁.setTop (entryFrame m #[(.ref a1), (.int p2)] 2)) t := fun t k => castTop (ef_8 m a1 p2) k
  have pre1 : ∀ t, Steps p.tables e below (s₁.setTop (mkF m 2 #[.val (.ref a1), .val (.int p2)] [(.ref a1), (.int p2)])) t → Steps p.tables e below (s₁.setTop (entryFrame m #[(.ref a1), (.int p2)] 2)) t := by
    intro t kt
    refine pre0 t ?_
    show Steps p.tables e below (s₁.setTop (mkF m 0 #[.val (.ref a1), .val (.int p2)] [])) _
    refine XS.iloadN X0.here hx rfl (hb hby d8_0) rfl ?_
    show Steps p.tables e below (s₁.setTop (mkF m 1 #[.val (.ref a1), .val (.int p2)] [(.int p2)])) _
    refine XS.aloadN X0.here hx rfl (hb hby d8_1) rfl rfl ?_
    exact kt
  obtain ⟨T2, X2, e2, st2⟩ := getF X0 hx hZ hown (host := "") (Or.inl (hw _ (List.mem_of_getElem? (i := 47) rfl))) Via.refl e0 F_values_a1 (g := (mkF m 2 #[.val (.ref a1), .val (.int p2)] [(.ref a1), (.int p2)])) rfl rfl (hb hby d8_2)
  have pre2 : ∀ t, Steps p.tables e below (T2.setTop (mkF m 5 #[.val (.ref a1), .val (.int p2)] [(.ref b1), (.int p2)])) t → Steps p.tables e below (s₁.setTop (entryFrame m #[(.ref a1), (.int p2)] 2)) t := fun t kt => pre1 t (st2 _ kt)
  have pre4 : ∀ t, Steps p.tables e below (T2.setTop (mkF m 6 #[.val (.ref a1), .val (.int p2)] [(.int ln), (.int p2)])) t → Steps p.tables e below (s₁.setTop (entryFrame m #[(.ref a1), (.int p2)] 2)) t := by
    intro t kt
    refine pre2 t ?_
    show Steps p.tables e below (T2.setTop (mkF m 5 #[.val (.ref a1), .val (.int p2)] [(.ref b1), (.int p2)])) _
    obtain ⟨cl3, Ar3, -, S3, M3, -, -⟩ := (id V_b1)
    refine X2.arraylength hx (by rw [e2]; exact Ar3.1) (State.isArrayOf_alike hZ.alike Ar3.2.1) (g := (mkF m 5 #[.val (.ref a1), .val (.int p2)] [(.ref b1), (.int p2)])) rfl rfl (hb hby d8_5) _ ?_
    rw [len_of S3 M3]
    exact kt
  obtain ⟨_, _, ⟨T5, L5, k5, n5⟩, -, X5, ⟨Lc5, hQ5, l5, y5, z5⟩, st5⟩ := Jvm.LawKit.callS X2 hx (y := (⟨"java/util/Objects", "checkIndex", "(II)I"⟩ : MethodName)) hown (mvT hZ (hw _ (List.mem_of_getElem? (i := 58) rfl))) (mvT hZ (hw _ (List.mem_of_getElem? (i := 59) rfl))) (mvT hZ (hw _ (List.mem_of_getElem? (i := 60) rfl))) (mvT hZ (hw _ (List.mem_of_getElem? (i := 61) rfl))) (by decide) (backOf (W := 0) (rm9 l Z a0 hw [] p2 ln h0 n0 Z0 (h1) (h2)) hZ (hw _ (List.mem_of_getElem? (i := 61) rfl)) (hw _ (List.mem_of_getElem? (i := 60) rfl)) (by decide) (by decide)) (g := (mkF m 6 #[.val (.ref a1), .val (.int p2)] [(.int ln), (.int p2)])) rfl (by rw [hml]; rfl) (argsL := [(.int p2), (.int ln)]) (rest := []) (lenOf pd_5 rfl) rfl (by show 2 * 0 + _ ≤ _; exact Nat.le_of_eq rfl) (hb hby d8_6) (fun _ _ => ⟨rfl, e2, (by decide : 0 + 0 ≤ _), (by decide : 0 + 0 ≤ _)⟩)
  dsimp only [Pt.U, Pt.locs, Pt.cells, Pt.slots] at X5 l5 y5 z5 st5 hQ5
  subst l5 y5 z5
  obtain ⟨rfl, N5q, e5⟩ := hQ5
  have N5 := Fr.app N0 N5q
  have pre5 : ∀ t, Steps p.tables e below (T5.setTop (mkF m 9 #[.val (.ref a1), .val (.int p2)] [(.int p2)])) t → Steps p.tables e below (s₁.setTop (entryFrame m #[(.ref a1), (.int p2)] 2)) t := fun t kt => pre4 t (st5 _ kt)
  have pre6 : ∀ t, Steps p.tables e below (T5.setTop (mkF m 12 #[.val (.ref a1), .val (.int p2)] [(.ref a1), (.int p2)])) t → Steps p.tables e below (s₁.setTop (entryFrame m #[(.ref a1), (.int p2)] 2)) t := by
    intro t kt
    refine pre5 t ?_
    show Steps p.tables e below (T5.setTop (mkF m 9 #[.val (.ref a1), .val (.int p2)] [(.int p2)])) _
    refine XS.pop X5.here hx rfl (hb hby d8_9) rfl rfl ?_
    show Steps p.tables e below (T5.setTop (mkF m 10 #[.val (.ref a1), .val (.int p2)] [])) _
    refine XS.iloadN X5.here hx rfl (hb hby d8_10) rfl ?_
    show Steps p.tables e below (T5.setTop (mkF m 11 #[.val (.ref a1), .val (.int p2)] [(.int p2)])) _
    refine XS.aloadN X5.here hx rfl (hb hby d8_11) rfl rfl ?_
    exact kt
  obtain ⟨T7, X7, e7, st7⟩ := getF X5 hx hZ hown (host := "") (Or.inl (hw _ (List.mem_of_getElem? (i := 49) rfl))) Via.refl e5 F_size_a1 (g := (mkF m 12 #[.val (.ref a1), .val (.int p2)] [(.ref a1), (.int p2)])) rfl rfl (hb hby d8_12)
  have pre7 : ∀ t, Steps p.tables e below (T7.setTop (mkF m 15 #[.val (.ref a1), .val (.int p2)] [(.int w1), (.int p2)])) t → Steps p.tables e below (s₁.setTop (entryFrame m #[(.ref a1), (.int p2)] 2)) t := fun t kt => pre6 t (st7 _ kt)
  have pre8 : ∀ t, Steps p.tables e below (T7.setTop (mkF m 19 #[.val (.ref a1), .val (.int p2)] [(.ref a1)])) t → Steps p.tables e below (s₁.setTop (entryFrame m #[(.ref a1), (.int p2)] 2)) t := by
    intro t kt
    refine pre7 t ?_
    show Steps p.tables e below (T7.setTop (mkF m 15 #[.val (.ref a1), .val (.int p2)] [(.int w1), (.int p2)])) _
    refine XS.icmpNo X7.here hx rfl (hb hby d8_15) rfl (tlt hlt).2.1 ?_
    show Steps p.tables e below (T7.setTop (mkF m 18 #[.val (.ref a1), .val (.int p2)] [])) _
    refine XS.aloadN X7.here hx rfl (hb hby d8_18) rfl rfl ?_
    exact kt
  obtain ⟨T9, X9, e9, st9⟩ := getF X7 hx hZ hown (host := "") (Or.inl (hw _ (List.mem_of_getElem? (i := 47) rfl))) Via.refl e7 F_values_a1 (g := (mkF m 19 #[.val (.ref a1), .val (.int p2)] [(.ref a1)])) rfl rfl (hb hby d8_19)
  have pre9 : ∀ t, Steps p.tables e below (T9.setTop (mkF m 22 #[.val (.ref a1), .val (.int p2)] [(.ref b1)])) t → Steps p.tables e below (s₁.setTop (entryFrame m #[(.ref a1), (.int p2)] 2)) t := fun t kt => pre8 t (st9 _ kt)
  have pre11 : ∀ t, Steps p.tables e below (T9.setTop (mkF m 29 #[.val (.ref a1), .val (.int p2)] [uz])) t → Steps p.tables e below (s₁.setTop (entryFrame m #[(.ref a1), (.int p2)] 2)) t := by
    intro t kt
    refine pre9 t ?_
    show Steps p.tables e below (T9.setTop (mkF m 22 #[.val (.ref a1), .val (.int p2)] [(.ref b1)])) _
    refine XS.iloadN X9.here hx rfl (hb hby d8_22) rfl ?_
    show Steps p.tables e below (T9.setTop (mkF m 23 #[.val (.ref a1), .val (.int p2)] [(.int p2), (.ref b1)])) _
    obtain ⟨cl10, Ar10, -, S10, M10, H10, -⟩ := (id V_b1)
    have hin10 : ¬ (p2 < 0 ∨ cl10.slots.size ≤ (p2).toNatClampNeg) := inb_of S10 ⟨h1, h2⟩
    refine X9.aaload hx (j := p2) (v := uz) (by rw [e9]; exact Ar10.1) (State.isArrayOf_alike hZ.alike Ar10.2.1) rfl Ar10.2.2 hin10 (H10.at hin10 he) (g := (mkF m 23 #[.val (.ref a1), .val (.int p2)] [(.int p2), (.ref b1)])) rfl rfl (hb hby d8_23) _ ?_
    show Steps p.tables e below (T9.setTop (mkF m 24 #[.val (.ref a1), .val (.int p2)] [uz])) _
    refine XS.goto X9.here hx rfl (pc0 := 24) (pc' := 29) rfl (hb hby d8_24) (by decide) (by decide) ?_
    exact kt
  obtain ⟨fs, hr, hrun, hended, hW, hsame⟩ := X9.leave (v := some uz) (fun h => by rw [Bd.returns] at h; cases h)
  refine ⟨_, _, pre11 _ ?_, hrun, hended, _, _, rfl, ?_, ⟨_, rfl⟩, hW, hsame.mono (by decide) (by decide)⟩
  · show Steps p.tables e below (T9.setTop (mkF m 29 #[.val (.ref a1), .val (.int p2)] [uz])) _
    jvm_step X9.here [X9.here.top, hx, (hb hby d8_29), X9.method', Bd.returns, hu, FieldType.isReference]
    first | (intro acts; rw [hr _ acts rfl rfl rfl]) | rw [hr _ _ rfl rfl rfl]
    exact Steps.refl _
  · show Qrm8a Z a1 p2 b1 w1 kd ln vs uz h0 n0 _ T9.heap _
    rw [e9]
    exact ⟨rfl, N5, rfl⟩
def Qrm8b (Z : State) (a1 : Addr) (p2 : Int32) (b1 : Addr) (w1 : Int32) (kd : ClassId) (ln : Int32) (vs : List Value) (h0 : Heap) (n0 : Nat) (v : Option Value) (h : Heap) (L : List Loc) : Prop := ∃ (az : Addr) (tz : Addr) (kz : ClassId), v = some (.ref az) ∧ Fr n0 L ∧ Keep h0 h [] ∧ Exa Z h az "java/lang/String" ∧ Fld Z h az "java/lang/String" "value" "[B" (.ref tz) ∧ Arv Z h tz kz .byte (0 : Int32) ((own_cs66.map fun c => c.toInt8.toInt32).map Value.int) (.int (0 : Int32))
theorem d8_27 : decode prog_13_method_4_code 27 = .ok (.ldc 34, 2) := by decide +kernel

set_option maxRecDepth 65536 in
set_option maxHeartbeats 40000000 in
theorem rm8b (l : Launch) (Z : State) (a0 : Array Value) (hw : ∀ d ∈ tables_1, d.before a0 Z = true) (ws : List Jvm.Cond) (a1 : Addr) (p2 : Int32) (b1 : Addr) (w1 : Int32) (kd : ClassId) (ln : Int32) (vs : List Value) (h0 : Heap) (n0 : Nat) (Z0 : n0 ≤ h0.size) (F_values_a1 : Fld Z h0 a1 "com/example/pourcode/pourcode/csv/CsvRecord" "values" "[Ljava/lang/String;" (.ref b1)) (F_size_a1 : Fld Z h0 a1 "com/example/pourcode/pourcode/csv/CsvRecord" "size" "I" (.int w1)) (V_b1 : Arv Z h0 b1 kd (.object "java/lang/String") ln vs .null) (h1 : ¬ p2 < (0 : Int32)) (h2 : p2 < ln) (hlt : ¬ p2 < w1) :
    MetFree l (⟨"com/example/pourcode/pourcode/csv/CsvRecord", "get", "(I)Ljava/lang/String;"⟩ : MethodName) (head1 (Jvm.Cond.code (⟨"com/example/pourcode/pourcode/csv/CsvRecord", "get", "(I)Ljava/lang/String;"⟩ : MethodName) prog_13_method_4_code 2 (some (.object "java/lang/String")) :: ws) ({ frames := 2, cells := 2, slots := 4, locals := 27 } : Room)) (fun a U => a = #[(.ref a1), (.int p2)] ∧ Z.Warmed39 U.vm ∧ U.heap = h0 ∧ CHv Z EL U.vm h0) (fun _ _ _ _ _ => True) (fun _ U o U' => ∃ v L, o = .returned v ∧ Qrm8b Z a1 p2 b1 w1 kd ln vs h0 n0 v U'.heap L ∧ CHr Z EL U.vm U.heap U'.vm U'.heap ∧ ReturnedEndW U o U' L ({ frames := 2, cells := 2, slots := 4, locals := 27 } : Room).cells ({ frames := 2, cells := 2, slots := 4, locals := 27 } : Room).slots) := by
  refine MetFree.of_bodySF (plainFor_of_name pn_5) hisR ?_
  intro p e s m args below meth c s₁ Bd hml0 hP hK
  obtain ⟨rfl, hZ, hh, hCH⟩ := hP
  have hS0 : s.Since s.vm 0 := (State.WarmedH.refl s).since 0
  have CR0 : CHr Z EL s.vm h0 s.vm h0 := CHr.refl hCH
  have hx := Bd.exec
  have hby := Bd.bytes
  have hml : c.maxLocals = 2 := hml0
  have hown : s.vm.findClass "com/example/pourcode/pourcode/csv/CsvRecord" = some m.cls := findClass_of_methodNamed Bd.named
  have hnm := (name_of_methodNamed Bd.named Bd.method).1
  have X0 : Stand p l e ({ frames := 2, cells := 2, slots := 4, locals := 27 } : Room) s m #[(.ref a1), (.int p2)] below meth c s₁ [] 0 0 := Stand.of_body Bd
  have e0 : s₁.heap = h0 := by rw [← hh, Bd.state]; rfl
  have N0 := Fr.nil n0
  have pre0 : ∀ t, Steps p.tables e below (s₁.setTop (mkF m 0 #[.val (.ref a1), .val (.int p2)] [])) t → Steps p.tables e below (s₁.setTop (entryFrame m #[(.ref a1), (.int p2)] 2)) t := fun t k => castTop (ef_8 m a1 p2) k
  have hEL : EW Z a0 EL := own_EW hw
  have wS : ∀ a ∈ Bundle.stringAtoms, a.before a0 Z = true := fun d hd => hw d ((by decide +kernel : ∀ d ∈ Bundle.stringAtoms, d ∈ tables_1) d hd)
  have pre1 : ∀ t, Steps p.tables e below (s₁.setTop (mkF m 2 #[.val (.ref a1), .val (.int p2)] [(.ref a1), (.int p2)])) t → Steps p.tables e below (s₁.setTop (entryFrame m #[(.ref a1), (.int p2)] 2)) t := by
    intro t kt
    refine pre0 t ?_
    show Steps p.tables e below (s₁.setTop (mkF m 0 #[.val (.ref a1), .val (.int p2)] [])) _
    refine XS.iloadN X0.here hx rfl (hb hby d8_0) rfl ?_
    show Steps p.tables e below (s₁.setTop (mkF m 1 #[.val (.ref a1), .val (.int p2)] [(.int p2)])) _
    refine XS.aloadN X0.here hx rfl (hb hby d8_1) rfl rfl ?_
    exact kt
  obtain ⟨T2, X2, e2, st2⟩ := getF X0 hx hZ hown (host := "") (Or.inl (hw _ (List.mem_of_getElem? (i := 47) rfl))) Via.refl e0 F_values_a1 (g := (mkF m 2 #[.val (.ref a1), .val (.int p2)] [(.ref a1), (.int p2)])) rfl rfl (hb hby d8_2)
  have pre2 : ∀ t, Steps p.tables e below (T2.setTop (mkF m 5 #[.val (.ref a1), .val (.int p2)] [(.ref b1), (.int p2)])) t → Steps p.tables e below (s₁.setTop (entryFrame m #[(.ref a1), (.int p2)] 2)) t := fun t kt => pre1 t (st2 _ kt)
  have pre4 : ∀ t, Steps p.tables e below (T2.setTop (mkF m 6 #[.val (.ref a1), .val (.int p2)] [(.int ln), (.int p2)])) t → Steps p.tables e below (s₁.setTop (entryFrame m #[(.ref a1), (.int p2)] 2)) t := by
    intro t kt
    refine pre2 t ?_
    show Steps p.tables e below (T2.setTop (mkF m 5 #[.val (.ref a1), .val (.int p2)] [(.ref b1), (.int p2)])) _
    obtain ⟨cl3, Ar3, -, S3, M3, -, -⟩ := (id V_b1)
    refine X2.arraylength hx (by rw [e2]; exact Ar3.1) (State.isArrayOf_alike hZ.alike Ar3.2.1) (g := (mkF m 5 #[.val (.ref a1), .val (.int p2)] [(.ref b1), (.int p2)])) rfl rfl (hb hby d8_5) _ ?_
    rw [len_of S3 M3]
    exact kt
  obtain ⟨_, _, ⟨T5, L5, k5, n5⟩, -, X5, ⟨Lc5, hQ5, l5, y5, z5⟩, st5⟩ := Jvm.LawKit.callS X2 hx (y := (⟨"java/util/Objects", "checkIndex", "(II)I"⟩ : MethodName)) hown (mvT hZ (hw _ (List.mem_of_getElem? (i := 58) rfl))) (mvT hZ (hw _ (List.mem_of_getElem? (i := 59) rfl))) (mvT hZ (hw _ (List.mem_of_getElem? (i := 60) rfl))) (mvT hZ (hw _ (List.mem_of_getElem? (i := 61) rfl))) (by decide) (backOf (W := 0) (rm9 l Z a0 hw [] p2 ln h0 n0 Z0 (h1) (h2)) hZ (hw _ (List.mem_of_getElem? (i := 61) rfl)) (hw _ (List.mem_of_getElem? (i := 60) rfl)) (by decide) (by decide)) (g := (mkF m 6 #[.val (.ref a1), .val (.int p2)] [(.int ln), (.int p2)])) rfl (by rw [hml]; rfl) (argsL := [(.int p2), (.int ln)]) (rest := []) (lenOf pd_5 rfl) rfl (by show 2 * 0 + _ ≤ _; exact Nat.le_of_eq rfl) (hb hby d8_6) (fun _ _ => ⟨rfl, e2, (by decide : 0 + 0 ≤ _), (by decide : 0 + 0 ≤ _)⟩)
  dsimp only [Pt.U, Pt.locs, Pt.cells, Pt.slots] at X5 l5 y5 z5 st5 hQ5
  subst l5 y5 z5
  obtain ⟨rfl, N5q, e5⟩ := hQ5
  have N5 := Fr.app N0 N5q
  have pre5 : ∀ t, Steps p.tables e below (T5.setTop (mkF m 9 #[.val (.ref a1), .val (.int p2)] [(.int p2)])) t → Steps p.tables e below (s₁.setTop (entryFrame m #[(.ref a1), (.int p2)] 2)) t := fun t kt => pre4 t (st5 _ kt)
  have pre6 : ∀ t, Steps p.tables e below (T5.setTop (mkF m 12 #[.val (.ref a1), .val (.int p2)] [(.ref a1), (.int p2)])) t → Steps p.tables e below (s₁.setTop (entryFrame m #[(.ref a1), (.int p2)] 2)) t := by
    intro t kt
    refine pre5 t ?_
    show Steps p.tables e below (T5.setTop (mkF m 9 #[.val (.ref a1), .val (.int p2)] [(.int p2)])) _
    refine XS.pop X5.here hx rfl (hb hby d8_9) rfl rfl ?_
    show Steps p.tables e below (T5.setTop (mkF m 10 #[.val (.ref a1), .val (.int p2)] [])) _
    refine XS.iloadN X5.here hx rfl (hb hby d8_10) rfl ?_
    show Steps p.tables e below (T5.setTop (mkF m 11 #[.val (.ref a1), .val (.int p2)] [(.int p2)])) _
    refine XS.aloadN X5.here hx rfl (hb hby d8_11) rfl rfl ?_
    exact kt
  obtain ⟨T7, X7, e7, st7⟩ := getF X5 hx hZ hown (host := "") (Or.inl (hw _ (List.mem_of_getElem? (i := 49) rfl))) Via.refl e5 F_size_a1 (g := (mkF m 12 #[.val (.ref a1), .val (.int p2)] [(.ref a1), (.int p2)])) rfl rfl (hb hby d8_12)
  have pre7 : ∀ t, Steps p.tables e below (T7.setTop (mkF m 15 #[.val (.ref a1), .val (.int p2)] [(.int w1), (.int p2)])) t → Steps p.tables e below (s₁.setTop (entryFrame m #[(.ref a1), (.int p2)] 2)) t := fun t kt => pre6 t (st7 _ kt)
  have pre8 : ∀ t, Steps p.tables e below (T7.setTop (mkF m 27 #[.val (.ref a1), .val (.int p2)] [])) t → Steps p.tables e below (s₁.setTop (entryFrame m #[(.ref a1), (.int p2)] 2)) t := by
    intro t kt
    refine pre7 t ?_
    show Steps p.tables e below (T7.setTop (mkF m 15 #[.val (.ref a1), .val (.int p2)] [(.int w1), (.int p2)])) _
    refine XS.icmpYes X7.here hx rfl (pc0 := 15) (pc' := 27) rfl (hb hby d8_15) rfl (flt hlt).2.1 (by decide) (by decide) ?_
    exact kt
  obtain ⟨a9, T9, h9, k9, b9, kb9, X9, e9, E9, hS9, hk9, hZ, hown, A9, C9, F9, V9, la9, lb9, CQ9, Li9, sf9, st9⟩ := ldcCH (s := s) (vm0 := s.vm) (text := own_t66) X7 hx hZ hown (hw _ (List.mem_of_getElem? (i := 66) rfl)) wS e7 hS0 (Nat.zero_le _) hEL own_mem66 CR0.1 (vs := (own_cs66.map fun c => c.toInt8.toInt32).map Value.int) (z := (0 : Int32)) own_ht66 (by decide) (by decide +kernel) (g := (mkF m 27 #[.val (.ref a1), .val (.int p2)] [])) rfl (hb hby d8_27) (n := 0) (by decide +kernel) (by decide) (by decide) (by decide)
  have K9 : Keep h0 h9 [] := (Keep.refl h0 []).ext E9
  have Z9 : n0 ≤ h9.size := Nat.le_trans Z0 E9.1
  have mo9_0 := Nat.le_trans (Nat.zero_le _) E9.1
  have F_values_a1_10 := F_values_a1.ext E9
  have F_size_a1_11 := F_size_a1.ext E9
  have V_b1_12 := V_b1.ext E9
  have CR9 := CR0.trans CQ9
  have nel9_b1 := sf9 _ (Safe.arv (hZ.alike) V_b1_12 (by decide))
  have pre9 : ∀ t, Steps p.tables e below (T9.setTop (mkF m 29 #[.val (.ref a1), .val (.int p2)] [(.ref a9)])) t → Steps p.tables e below (s₁.setTop (entryFrame m #[(.ref a1), (.int p2)] 2)) t := fun t kt => pre8 t (st9 _ kt)
  obtain ⟨fs, hr, hrun, hended, hEnd⟩ := X9.leaveW (s := s) (vm₁ := T9.vm) hS9 (by rw [e9]; exact hk9) (v := some (.ref a9)) (fun h => by rw [Bd.returns] at h; cases h)
  refine ⟨_, _, pre9 _ ?_, hrun, hended, _, _, rfl, ?_, (by rw [hh]; exact CR9.trans (by rw [show (T9.setFrames fs).heap = h9 from e9]; exact (show CHr Z EL T9.vm h9 T9.vm h9 from CHv.at (s := s) (vm0 := T9.vm) X9 hZ hEL CR9.1))), hEnd.1, hEnd.2.1, hEnd.2.2.1, hEnd.2.2.2.mono (by decide) (by decide)⟩
  · show Steps p.tables e below (T9.setTop (mkF m 29 #[.val (.ref a1), .val (.int p2)] [(.ref a9)])) _
    jvm_step X9.here [X9.here.top, hx, (hb hby d8_29), X9.method', Bd.returns, Value.isRef, FieldType.isReference]
    first | (intro acts; rw [hr _ acts rfl rfl rfl]) | rw [hr _ _ rfl rfl rfl]
    exact Steps.refl _
  · show Qrm8b Z a1 p2 b1 w1 kd ln vs h0 n0 _ T9.heap _
    rw [e9]
    exact ⟨a9, b9, kb9, rfl, N5, K9, A9, F9, V9⟩
def Qrm11 (Z : State) (a1 : Addr) (tb : Addr) (kd : ClassId) (vs : List Value) (h0 : Heap) (n0 : Nat) (v : Option Value) (h : Heap) (L : List Loc) : Prop := v = some (.int (1 : Int32)) ∧ Fr n0 L ∧ h = h0
theorem d11_0 : decode jdk_42_method_55_code 0 = .ok (.aload_n 0, 1) := by decide +kernel
theorem d11_1 : decode jdk_42_method_55_code 1 = .ok (.getfield 9, 3) := by decide +kernel
theorem d11_4 : decode jdk_42_method_55_code 4 = .ok (.arraylength, 1) := by decide +kernel
theorem d11_5 : decode jdk_42_method_55_code 5 = .ok (.ifCond .ne 7, 3) := by decide +kernel
theorem d11_8 : decode jdk_42_method_55_code 8 = .ok (.iconst 1, 1) := by decide +kernel
theorem d11_9 : decode jdk_42_method_55_code 9 = .ok (.goto 4, 3) := by decide +kernel
theorem d11_13 : decode jdk_42_method_55_code 13 = .ok (.ireturn, 1) := by decide +kernel
theorem ef_11 (m : MethodId) (x0 : Addr) : entryFrame m #[(.ref x0)] 1 = mkF m 0 #[.val (.ref x0)] [] := by first | (simp [entryFrame, mkF, argsToLocals, Value.category]; done) | rfl
set_option maxRecDepth 65536 in
set_option maxHeartbeats 40000000 in
theorem rm11 (l : Launch) (Z : State) (a0 : Array Value) (hw : ∀ d ∈ tables_1, d.before a0 Z = true) (ws : List Jvm.Cond) (a1 : Addr) (tb : Addr) (kd : ClassId) (vs : List Value) (h0 : Heap) (n0 : Nat) (Z0 : n0 ≤ h0.size) (F_value_a1 : Fld Z h0 a1 "java/lang/String" "value" "[B" (.ref tb)) (V_tb : Arv Z h0 tb kd .byte (0 : Int32) vs (.int (0 : Int32))) :
    MetFree l (⟨"java/lang/String", "isEmpty", "()Z"⟩ : MethodName) (head1 (Jvm.Cond.code (⟨"java/lang/String", "isEmpty", "()Z"⟩ : MethodName) jdk_42_method_55_code 1 (some .boolean) :: ws) ({ frames := 0, cells := 0, slots := 0, locals := 0 } : Room)) (fun a U => a = #[(.ref a1)] ∧ Z.Warmed39 U.vm ∧ U.heap = h0) (fun _ _ _ _ _ => True) (fun _ U o U' => ∃ v L, o = .returned v ∧ Qrm11 Z a1 tb kd vs h0 n0 v U'.heap L ∧ FrameEnd U o U' L ({ frames := 0, cells := 0, slots := 0, locals := 0 } : Room).cells ({ frames := 0, cells := 0, slots := 0, locals := 0 } : Room).slots) := by
  refine MetFree.of_bodySF (plainFor_of_name pn_1) hisR ?_
  intro p e s m args below meth c s₁ Bd hml0 hP hK
  obtain ⟨rfl, hZ, hh⟩ := hP
  have hx := Bd.exec
  have hby := Bd.bytes
  have hml : c.maxLocals = 1 := hml0
  have hown : s.vm.findClass "java/lang/String" = some m.cls := findClass_of_methodNamed Bd.named
  have hnm := (name_of_methodNamed Bd.named Bd.method).1
  have X0 : Stand p l e ({ frames := 0, cells := 0, slots := 0, locals := 0 } : Room) s m #[(.ref a1)] below meth c s₁ [] 0 0 := Stand.of_body Bd
  have e0 : s₁.heap = h0 := by rw [← hh, Bd.state]; rfl
  have N0 := Fr.nil n0
  have pre0 : ∀ t, Steps p.tables e below (s₁.setTop (mkF m 0 #[.val (.ref a1)] [])) t → Steps p.tables e below (s₁.setTop (entryFrame m #[(.ref a1)] 1)) t := fun t k => castTop (ef_11 m a1) k
  have pre1 : ∀ t, Steps p.tables e below (s₁.setTop (mkF m 1 #[.val (.ref a1)] [(.ref a1)])) t → Steps p.tables e below (s₁.setTop (entryFrame m #[(.ref a1)] 1)) t := by
    intro t kt
    refine pre0 t ?_
    show Steps p.tables e below (s₁.setTop (mkF m 0 #[.val (.ref a1)] [])) _
    refine XS.aloadN X0.here hx rfl (hb hby d11_0) rfl rfl ?_
    exact kt
  obtain ⟨T2, X2, e2, st2⟩ := getF X0 hx hZ hown (host := "") (Or.inl (hw _ (List.mem_of_getElem? (i := 26) rfl))) Via.refl e0 F_value_a1 (g := (mkF m 1 #[.val (.ref a1)] [(.ref a1)])) rfl rfl (hb hby d11_1)
  have pre2 : ∀ t, Steps p.tables e below (T2.setTop (mkF m 4 #[.val (.ref a1)] [(.ref tb)])) t → Steps p.tables e below (s₁.setTop (entryFrame m #[(.ref a1)] 1)) t := fun t kt => pre1 t (st2 _ kt)
  have pre4 : ∀ t, Steps p.tables e below (T2.setTop (mkF m 13 #[.val (.ref a1)] [(.int (1 : Int32))])) t → Steps p.tables e below (s₁.setTop (entryFrame m #[(.ref a1)] 1)) t := by
    intro t kt
    refine pre2 t ?_
    show Steps p.tables e below (T2.setTop (mkF m 4 #[.val (.ref a1)] [(.ref tb)])) _
    obtain ⟨cl3, Ar3, -, S3, M3, -, -⟩ := (id V_tb)
    refine X2.arraylength hx (by rw [e2]; exact Ar3.1) (State.isArrayOf_alike hZ.alike Ar3.2.1) (g := (mkF m 4 #[.val (.ref a1)] [(.ref tb)])) rfl rfl (hb hby d11_4) _ ?_
    rw [len_of S3 M3]
    show Steps p.tables e below (T2.setTop (mkF m 5 #[.val (.ref a1)] [(.int (0 : Int32))])) _
    refine XS.ifNo X2.here hx rfl (hb hby d11_5) rfl ((if0 _ _).trans (teq (by decide)).2) ?_
    show Steps p.tables e below (T2.setTop (mkF m 8 #[.val (.ref a1)] [])) _
    refine XS.iconst X2.here hx rfl (hb hby d11_8) ?_
    show Steps p.tables e below (T2.setTop (mkF m 9 #[.val (.ref a1)] [(.int (1 : Int32))])) _
    refine XS.goto X2.here hx rfl (pc0 := 9) (pc' := 13) rfl (hb hby d11_9) (by decide) (by decide) ?_
    exact kt
  obtain ⟨fs, hr, hrun, hended, hW, hsame⟩ := X2.leave (v := some (.int (1 : Int32))) (fun h => by rw [Bd.returns] at h; cases h)
  refine ⟨_, _, pre4 _ ?_, hrun, hended, _, _, rfl, ?_, ⟨_, rfl⟩, hW, hsame.mono (by decide) (by decide)⟩
  · show Steps p.tables e below (T2.setTop (mkF m 13 #[.val (.ref a1)] [(.int (1 : Int32))])) _
    exact retN X2 hx (t := .boolean) Bd.returns (by simp) (hb hby d11_13) hr
  · show Qrm11 Z a1 tb kd vs h0 n0 _ T2.heap _
    rw [e2]
    exact ⟨rfl, N0, rfl⟩
def Q0 (n0 : Nat) (v : Option Value) (h : Heap) (L : List Loc) : Prop := v = some (.int (1 : Int32)) ∧ Fr n0 L
theorem ef_0 (m : MethodId) (x0 : Int32) (x1 : Int32) (x2 : Int32) (x3 : Int32) (x4 : Int32) : entryFrame m #[(.int x0), (.int x1), (.int x2), (.int x3), (.int x4)] maxLocals = mkF m 0 #[.val (.int x0), .val (.int x1), .val (.int x2), .val (.int x3), .val (.int x4), .unset, .unset, .unset, .unset, .unset, .unset, .unset, .unset, .unset, .unset, .unset] [] := by first | (simp [entryFrame, mkF, argsToLocals, Value.category, maxLocals]; done) | rfl
set_option maxRecDepth 65536 in
set_option maxHeartbeats 40000000 in
theorem rm0 (l : Launch) (Z : State) (a0 : Array Value) (hw : ∀ d ∈ tables_1, d.before a0 Z = true) (ws : List Jvm.Cond) (p1 : Int32) (p2 : Int32) (p3 : Int32) (p4 : Int32) (p5 : Int32) (cz : Int32) (h0 : Heap) (n0 : Nat) (Z0 : n0 ≤ h0.size) (SCS : Sta Z h0 "java/lang/String" "COMPACT_STRINGS" "Z" (.int cz)) (hCS : ¬ (cz = (0 : Int32))) :
    MetFree l x (head1 (Jvm.Cond.code x code maxLocals ret :: ws) room_1) (fun a U => a = #[(.int p1), (.int p2), (.int p3), (.int p4), (.int p5)] ∧ Z.Warmed39 U.vm ∧ U.heap = h0 ∧ CHv Z EL U.vm h0) (fun _ _ _ _ _ => True) (fun _ U o U' => ∃ v L, o = .returned v ∧ Q0 n0 v U'.heap L ∧ ReturnedEndW U o U' L room_1.cells room_1.slots) := by
  refine MetFree.of_bodySF (plainFor_of_name pn_2) hisR ?_
  intro p e s m args below meth c s₁ Bd hml0 hP hK
  obtain ⟨rfl, hZ, hh, hCH⟩ := hP
  have hS0 : s.Since s.vm 0 := (State.WarmedH.refl s).since 0
  have CR0 : CHr Z EL s.vm h0 s.vm h0 := CHr.refl hCH
  have hx := Bd.exec
  have hby := Bd.bytes
  have hml : c.maxLocals = 16 := hml0
  have hown : s.vm.findClass "com/example/pourcode/pourcode/csv/CsvRecordGetPinLaw" = some m.cls := findClass_of_methodNamed Bd.named
  have hnm := (name_of_methodNamed Bd.named Bd.method).1
  have X0 : Stand p l e room_1 s m #[(.int p1), (.int p2), (.int p3), (.int p4), (.int p5)] below meth c s₁ [] 0 0 := Stand.of_body Bd
  have e0 : s₁.heap = h0 := by rw [← hh, Bd.state]; rfl
  have N0 := Fr.nil n0
  have pre0 : ∀ t, Steps p.tables e below (s₁.setTop (mkF m 0 #[.val (.int p1), .val (.int p2), .val (.int p3), .val (.int p4), .val (.int p5), .unset, .unset, .unset, .unset, .unset, .unset, .unset, .unset, .unset, .unset, .unset] [])) t → Steps p.tables e below (s₁.setTop (entryFrame m #[(.int p1), (.int p2), (.int p3), (.int p4), (.int p5)] maxLocals)) t := fun t k => castTop (ef_0 m p1 p2 p3 p4 p5) k
  have hEL : EW Z a0 EL := own_EW hw
  have wS : ∀ a ∈ Bundle.stringAtoms, a.before a0 Z = true := fun d hd => hw d ((by decide +kernel : ∀ d ∈ Bundle.stringAtoms, d ∈ tables_1) d hd)
  have pre1 : ∀ t, Steps p.tables e below (s₁.setTop (mkF m 3 #[.val (.int p1), .val (.int p2), .val (.int p3), .val (.int p4), .val (.int p5), .unset, .unset, .unset, .unset, .unset, .unset, .unset, .unset, .unset, .unset, .unset] [(.int (2 : Int32)), (.int p3), (.int p1)])) t → Steps p.tables e below (s₁.setTop (entryFrame m #[(.int p1), (.int p2), (.int p3), (.int p4), (.int p5)] maxLocals)) t := by
    intro t kt
    refine pre0 t ?_
    show Steps p.tables e below (s₁.setTop (mkF m 0 #[.val (.int p1), .val (.int p2), .val (.int p3), .val (.int p4), .val (.int p5), .unset, .unset, .unset, .unset, .unset, .unset, .unset, .unset, .unset, .unset, .unset] [])) _
    refine XS.iloadN X0.here hx rfl (hb hby at_0) rfl ?_
    show Steps p.tables e below (s₁.setTop (mkF m 1 #[.val (.int p1), .val (.int p2), .val (.int p3), .val (.int p4), .val (.int p5), .unset, .unset, .unset, .unset, .unset, .unset, .unset, .unset, .unset, .unset, .unset] [(.int p1)])) _
    refine XS.iloadN X0.here hx rfl (hb hby at_1) rfl ?_
    show Steps p.tables e below (s₁.setTop (mkF m 2 #[.val (.int p1), .val (.int p2), .val (.int p3), .val (.int p4), .val (.int p5), .unset, .unset, .unset, .unset, .unset, .unset, .unset, .unset, .unset, .unset, .unset] [(.int p3), (.int p1)])) _
    refine XS.iconst X0.here hx rfl (hb hby at_2) ?_
    exact kt
  obtain ⟨_, _, ⟨T2, L2, k2, n2⟩, -, X2, ⟨Lc2, hQ2, l2, y2, z2⟩, st2⟩ := Jvm.LawKit.callS X0 hx (y := (⟨"com/example/pourcode/pourcode/csv/CsvRecordGetPinLaw", "drawn", "(III)Ljava/lang/String;"⟩ : MethodName)) hown (mvT hZ (hw _ (List.mem_of_getElem? (i := 0) rfl))) (mvT hZ (hw _ (List.mem_of_getElem? (i := 1) rfl))) (mvT hZ (hw _ (List.mem_of_getElem? (i := 2) rfl))) (mvT hZ (hw _ (List.mem_of_getElem? (i := 3) rfl))) (by decide) (backOf (W := 0) (rm1 l Z a0 hw [] p1 p3 (2 : Int32) cz h0 n0 Z0 SCS (hCS)) hZ (hw _ (List.mem_of_getElem? (i := 3) rfl)) (hw _ (List.mem_of_getElem? (i := 2) rfl)) (by decide) (by decide)) (g := (mkF m 3 #[.val (.int p1), .val (.int p2), .val (.int p3), .val (.int p4), .val (.int p5), .unset, .unset, .unset, .unset, .unset, .unset, .unset, .unset, .unset, .unset, .unset] [(.int (2 : Int32)), (.int p3), (.int p1)])) rfl (by rw [hml]; rfl) (argsL := [(.int p1), (.int p3), (.int (2 : Int32))]) (rest := []) (lenOf pd_6 rfl) rfl (by show 2 * 0 + _ ≤ _; exact Nat.le_of_eq rfl) (hb hby at_3) (fun _ _ => ⟨rfl, e0, (by decide : 0 + 2 ≤ _), (by decide : 0 + 5 ≤ _)⟩)
  dsimp only [Pt.U, Pt.locs, Pt.cells, Pt.slots] at X2 l2 y2 z2 st2 hQ2
  subst l2 y2 z2
  obtain ⟨vz_2, rfl, N2q, KC2, P2_0, R2_0⟩ := hQ2
  have N2 := Fr.app N0 N2q
  have Z2 : n0 ≤ T2.heap.size := Nat.le_trans Z0 KC2.1
  have mo2_0 := Nat.le_trans (Nat.zero_le _) KC2.1
  have CR2 := CR0.trans (CHr.keep KC2 sf0 CR0.1)
  have K2 : Keep h0 T2.heap [] := (Keep.refl h0 []).trans KC2 all0
  have SCS_3 := own_stak SCS KC2 ns0
  have SS_vz_2_2 : own_S Z T2.heap vz_2 := P2_0
  have pre2 : ∀ t, Steps p.tables e below (T2.setTop (mkF m 6 #[.val (.int p1), .val (.int p2), .val (.int p3), .val (.int p4), .val (.int p5), .unset, .unset, .unset, .unset, .unset, .unset, .unset, .unset, .unset, .unset, .unset] [vz_2])) t → Steps p.tables e below (s₁.setTop (entryFrame m #[(.int p1), (.int p2), (.int p3), (.int p4), (.int p5)] maxLocals)) t := fun t kt => pre1 t (st2 _ kt)
  have pre4 : ∀ t, Steps p.tables e below (T2.setTop (mkF m 14 #[.val (.int p1), .val (.int p2), .val (.int p3), .val (.int p4), .val (.int p5), .val vz_2, .unset, .unset, .unset, .unset, .unset, .unset, .unset, .unset, .unset, .unset] [(.int (3 : Int32)), (.int p3), (.int ((p1.toUInt32 >>> ((8 : Int32) &&& 31).toUInt32).toInt32))])) t → Steps p.tables e below (s₁.setTop (entryFrame m #[(.int p1), (.int p2), (.int p3), (.int p4), (.int p5)] maxLocals)) t := by
    intro t kt
    refine pre2 t ?_
    show Steps p.tables e below (T2.setTop (mkF m 6 #[.val (.int p1), .val (.int p2), .val (.int p3), .val (.int p4), .val (.int p5), .unset, .unset, .unset, .unset, .unset, .unset, .unset, .unset, .unset, .unset, .unset] [vz_2])) _
    refine XS.astore X2.here hx rfl (hb hby at_6) rfl R2_0 (l' := #[.val (.int p1), .val (.int p2), .val (.int p3), .val (.int p4), .val (.int p5), .val vz_2, .unset, .unset, .unset, .unset, .unset, .unset, .unset, .unset, .unset, .unset]) (by rcases ref_cases R2_0 with q | ⟨_, q⟩ <;> rw [q] <;> rfl) ?_
    show Steps p.tables e below (T2.setTop (mkF m 8 #[.val (.int p1), .val (.int p2), .val (.int p3), .val (.int p4), .val (.int p5), .val vz_2, .unset, .unset, .unset, .unset, .unset, .unset, .unset, .unset, .unset, .unset] [])) _
    refine XS.iloadN X2.here hx rfl (hb hby at_8) rfl ?_
    show Steps p.tables e below (T2.setTop (mkF m 9 #[.val (.int p1), .val (.int p2), .val (.int p3), .val (.int p4), .val (.int p5), .val vz_2, .unset, .unset, .unset, .unset, .unset, .unset, .unset, .unset, .unset, .unset] [(.int p1)])) _
    refine XS.bipush X2.here hx rfl (hb hby at_9) ?_
    show Steps p.tables e below (T2.setTop (mkF m 11 #[.val (.int p1), .val (.int p2), .val (.int p3), .val (.int p4), .val (.int p5), .val vz_2, .unset, .unset, .unset, .unset, .unset, .unset, .unset, .unset, .unset, .unset] [(.int (8 : Int32)), (.int p1)])) _
    refine XS.iushr X2.here hx rfl (hb hby at_11) rfl ?_
    show Steps p.tables e below (T2.setTop (mkF m 12 #[.val (.int p1), .val (.int p2), .val (.int p3), .val (.int p4), .val (.int p5), .val vz_2, .unset, .unset, .unset, .unset, .unset, .unset, .unset, .unset, .unset, .unset] [(.int ((p1.toUInt32 >>> ((8 : Int32) &&& 31).toUInt32).toInt32))])) _
    refine XS.iloadN X2.here hx rfl (hb hby at_12) rfl ?_
    show Steps p.tables e below (T2.setTop (mkF m 13 #[.val (.int p1), .val (.int p2), .val (.int p3), .val (.int p4), .val (.int p5), .val vz_2, .unset, .unset, .unset, .unset, .unset, .unset, .unset, .unset, .unset, .unset] [(.int p3), (.int ((p1.toUInt32 >>> ((8 : Int32) &&& 31).toUInt32).toInt32))])) _
    refine XS.iconst X2.here hx rfl (hb hby at_13) ?_
    exact kt
  obtain ⟨_, _, ⟨T5, L5, k5, n5⟩, -, X5, ⟨Lc5, hQ5, l5, y5, z5⟩, st5⟩ := Jvm.LawKit.callS X2 hx (y := (⟨"com/example/pourcode/pourcode/csv/CsvRecordGetPinLaw", "drawn", "(III)Ljava/lang/String;"⟩ : MethodName)) hown (mvT hZ (hw _ (List.mem_of_getElem? (i := 0) rfl))) (mvT hZ (hw _ (List.mem_of_getElem? (i := 1) rfl))) (mvT hZ (hw _ (List.mem_of_getElem? (i := 2) rfl))) (mvT hZ (hw _ (List.mem_of_getElem? (i := 3) rfl))) (by decide) (backOf (W := 0) (rm1 l Z a0 hw [] ((p1.toUInt32 >>> ((8 : Int32) &&& 31).toUInt32).toInt32) p3 (3 : Int32) cz T2.heap n0 Z2 SCS_3 (hCS)) hZ (hw _ (List.mem_of_getElem? (i := 3) rfl)) (hw _ (List.mem_of_getElem? (i := 2) rfl)) (by decide) (by decide)) (g := (mkF m 14 #[.val (.int p1), .val (.int p2), .val (.int p3), .val (.int p4), .val (.int p5), .val vz_2, .unset, .unset, .unset, .unset, .unset, .unset, .unset, .unset, .unset, .unset] [(.int (3 : Int32)), (.int p3), (.int ((p1.toUInt32 >>> ((8 : Int32) &&& 31).toUInt32).toInt32))])) rfl (by rw [hml]; rfl) (argsL := [(.int ((p1.toUInt32 >>> ((8 : Int32) &&& 31).toUInt32).toInt32)), (.int p3), (.int (3 : Int32))]) (rest := []) (lenOf pd_6 rfl) rfl (by show 2 * 0 + _ ≤ _; exact Nat.le_of_eq rfl) (hb hby at_14) (fun _ _ => ⟨rfl, rfl, (by decide : 2 + 2 ≤ _), (by decide : 5 + 5 ≤ _)⟩)
  dsimp only [Pt.U, Pt.locs, Pt.cells, Pt.slots] at X5 l5 y5 z5 st5 hQ5
  subst l5 y5 z5
  obtain ⟨vz_5, rfl, N5q, KC5, P5_0, R5_0⟩ := hQ5
  have N5 := Fr.app N2 N5q
  have Z5 : n0 ≤ T5.heap.size := Nat.le_trans Z2 KC5.1
  have mo5_0 := Nat.le_trans mo2_0 KC5.1
  have CR5 := CR2.trans (CHr.keep KC5 sf0 CR2.1)
  have K5 : Keep h0 T5.heap [] := K2.trans KC5 all0
  have SCS_6 := own_stak SCS_3 KC5 ns0
  have SS_vz_2_2_7 := own_Skeep SS_vz_2_2 KC5
  have SS_vz_5_5 : own_S Z T5.heap vz_5 := P5_0
  have pre5 : ∀ t, Steps p.tables e below (T5.setTop (mkF m 17 #[.val (.int p1), .val (.int p2), .val (.int p3), .val (.int p4), .val (.int p5), .val vz_2, .unset, .unset, .unset, .unset, .unset, .unset, .unset, .unset, .unset, .unset] [vz_5])) t → Steps p.tables e below (s₁.setTop (entryFrame m #[(.int p1), (.int p2), (.int p3), (.int p4), (.int p5)] maxLocals)) t := fun t kt => pre4 t (st5 _ kt)
  have pre8 : ∀ t, Steps p.tables e below (T5.setTop (mkF m 22 #[.val (.int p1), .val (.int p2), .val (.int p3), .val (.int p4), .val (.int p5), .val vz_2, .val vz_5, .unset, .unset, .unset, .unset, .unset, .unset, .unset, .unset, .unset] [(.int (4 : Int32)), (.int p3), (.int p2)])) t → Steps p.tables e below (s₁.setTop (entryFrame m #[(.int p1), (.int p2), (.int p3), (.int p4), (.int p5)] maxLocals)) t := by
    intro t kt
    refine pre5 t ?_
    show Steps p.tables e below (T5.setTop (mkF m 17 #[.val (.int p1), .val (.int p2), .val (.int p3), .val (.int p4), .val (.int p5), .val vz_2, .unset, .unset, .unset, .unset, .unset, .unset, .unset, .unset, .unset, .unset] [vz_5])) _
    refine XS.astore X5.here hx rfl (hb hby at_17) rfl R5_0 (l' := #[.val (.int p1), .val (.int p2), .val (.int p3), .val (.int p4), .val (.int p5), .val vz_2, .val vz_5, .unset, .unset, .unset, .unset, .unset, .unset, .unset, .unset, .unset]) (by rcases ref_cases R5_0 with q | ⟨_, q⟩ <;> rw [q] <;> rfl) ?_
    show Steps p.tables e below (T5.setTop (mkF m 19 #[.val (.int p1), .val (.int p2), .val (.int p3), .val (.int p4), .val (.int p5), .val vz_2, .val vz_5, .unset, .unset, .unset, .unset, .unset, .unset, .unset, .unset, .unset] [])) _
    refine XS.iloadN X5.here hx rfl (hb hby at_19) rfl ?_
    show Steps p.tables e below (T5.setTop (mkF m 20 #[.val (.int p1), .val (.int p2), .val (.int p3), .val (.int p4), .val (.int p5), .val vz_2, .val vz_5, .unset, .unset, .unset, .unset, .unset, .unset, .unset, .unset, .unset] [(.int p2)])) _
    refine XS.iloadN X5.here hx rfl (hb hby at_20) rfl ?_
    show Steps p.tables e below (T5.setTop (mkF m 21 #[.val (.int p1), .val (.int p2), .val (.int p3), .val (.int p4), .val (.int p5), .val vz_2, .val vz_5, .unset, .unset, .unset, .unset, .unset, .unset, .unset, .unset, .unset] [(.int p3), (.int p2)])) _
    refine XS.iconst X5.here hx rfl (hb hby at_21) ?_
    exact kt
  obtain ⟨_, _, ⟨T9, L9, k9, n9⟩, -, X9, ⟨Lc9, hQ9, l9, y9, z9⟩, st9⟩ := Jvm.LawKit.callS X5 hx (y := (⟨"com/example/pourcode/pourcode/csv/CsvRecordGetPinLaw", "drawn", "(III)Ljava/lang/String;"⟩ : MethodName)) hown (mvT hZ (hw _ (List.mem_of_getElem? (i := 0) rfl))) (mvT hZ (hw _ (List.mem_of_getElem? (i := 1) rfl))) (mvT hZ (hw _ (List.mem_of_getElem? (i := 2) rfl))) (mvT hZ (hw _ (List.mem_of_getElem? (i := 3) rfl))) (by decide) (backOf (W := 0) (rm1 l Z a0 hw [] p2 p3 (4 : Int32) cz T5.heap n0 Z5 SCS_6 (hCS)) hZ (hw _ (List.mem_of_getElem? (i := 3) rfl)) (hw _ (List.mem_of_getElem? (i := 2) rfl)) (by decide) (by decide)) (g := (mkF m 22 #[.val (.int p1), .val (.int p2), .val (.int p3), .val (.int p4), .val (.int p5), .val vz_2, .val vz_5, .unset, .unset, .unset, .unset, .unset, .unset, .unset, .unset, .unset] [(.int (4 : Int32)), (.int p3), (.int p2)])) rfl (by rw [hml]; rfl) (argsL := [(.int p2), (.int p3), (.int (4 : Int32))]) (rest := []) (lenOf pd_6 rfl) rfl (by show 2 * 0 + _ ≤ _; exact Nat.le_of_eq rfl) (hb hby at_22) (fun _ _ => ⟨rfl, rfl, (by decide : 4 + 2 ≤ _), (by decide : 10 + 5 ≤ _)⟩)
  dsimp only [Pt.U, Pt.locs, Pt.cells, Pt.slots] at X9 l9 y9 z9 st9 hQ9
  subst l9 y9 z9
  obtain ⟨vz_9, rfl, N9q, KC9, P9_0, R9_0⟩ := hQ9
  have N9 := Fr.app N5 N9q
  have Z9 : n0 ≤ T9.heap.size := Nat.le_trans Z5 KC9.1
  have mo9_0 := Nat.le_trans mo5_0 KC9.1
  have CR9 := CR5.trans (CHr.keep KC9 sf0 CR5.1)
  have K9 : Keep h0 T9.heap [] := K5.trans KC9 all0
  have SCS_10 := own_stak SCS_6 KC9 ns0
  have SS_vz_2_2_11 := own_Skeep SS_vz_2_2_7 KC9
  have SS_vz_5_5_12 := own_Skeep SS_vz_5_5 KC9
  have SS_vz_9_9 : own_S Z T9.heap vz_9 := P9_0
  have pre9 : ∀ t, Steps p.tables e below (T9.setTop (mkF m 25 #[.val (.int p1), .val (.int p2), .val (.int p3), .val (.int p4), .val (.int p5), .val vz_2, .val vz_5, .unset, .unset, .unset, .unset, .unset, .unset, .unset, .unset, .unset] [vz_9])) t → Steps p.tables e below (s₁.setTop (entryFrame m #[(.int p1), (.int p2), (.int p3), (.int p4), (.int p5)] maxLocals)) t := fun t kt => pre8 t (st9 _ kt)
  have pre13 : ∀ t, Steps p.tables e below (T9.setTop (mkF m 33 #[.val (.int p1), .val (.int p2), .val (.int p3), .val (.int p4), .val (.int p5), .val vz_2, .val vz_5, .val vz_9, .unset, .unset, .unset, .unset, .unset, .unset, .unset, .unset] [(.int (5 : Int32)), (.int p3), (.int ((p2.toUInt32 >>> ((8 : Int32) &&& 31).toUInt32).toInt32))])) t → Steps p.tables e below (s₁.setTop (entryFrame m #[(.int p1), (.int p2), (.int p3), (.int p4), (.int p5)] maxLocals)) t := by
    intro t kt
    refine pre9 t ?_
    show Steps p.tables e below (T9.setTop (mkF m 25 #[.val (.int p1), .val (.int p2), .val (.int p3), .val (.int p4), .val (.int p5), .val vz_2, .val vz_5, .unset, .unset, .unset, .unset, .unset, .unset, .unset, .unset, .unset] [vz_9])) _
    refine XS.astore X9.here hx rfl (hb hby at_25) rfl R9_0 (l' := #[.val (.int p1), .val (.int p2), .val (.int p3), .val (.int p4), .val (.int p5), .val vz_2, .val vz_5, .val vz_9, .unset, .unset, .unset, .unset, .unset, .unset, .unset, .unset]) (by rcases ref_cases R9_0 with q | ⟨_, q⟩ <;> rw [q] <;> rfl) ?_
    show Steps p.tables e below (T9.setTop (mkF m 27 #[.val (.int p1), .val (.int p2), .val (.int p3), .val (.int p4), .val (.int p5), .val vz_2, .val vz_5, .val vz_9, .unset, .unset, .unset, .unset, .unset, .unset, .unset, .unset] [])) _
    refine XS.iloadN X9.here hx rfl (hb hby at_27) rfl ?_
    show Steps p.tables e below (T9.setTop (mkF m 28 #[.val (.int p1), .val (.int p2), .val (.int p3), .val (.int p4), .val (.int p5), .val vz_2, .val vz_5, .val vz_9, .unset, .unset, .unset, .unset, .unset, .unset, .unset, .unset] [(.int p2)])) _
    refine XS.bipush X9.here hx rfl (hb hby at_28) ?_
    show Steps p.tables e below (T9.setTop (mkF m 30 #[.val (.int p1), .val (.int p2), .val (.int p3), .val (.int p4), .val (.int p5), .val vz_2, .val vz_5, .val vz_9, .unset, .unset, .unset, .unset, .unset, .unset, .unset, .unset] [(.int (8 : Int32)), (.int p2)])) _
    refine XS.iushr X9.here hx rfl (hb hby at_30) rfl ?_
    show Steps p.tables e below (T9.setTop (mkF m 31 #[.val (.int p1), .val (.int p2), .val (.int p3), .val (.int p4), .val (.int p5), .val vz_2, .val vz_5, .val vz_9, .unset, .unset, .unset, .unset, .unset, .unset, .unset, .unset] [(.int ((p2.toUInt32 >>> ((8 : Int32) &&& 31).toUInt32).toInt32))])) _
    refine XS.iloadN X9.here hx rfl (hb hby at_31) rfl ?_
    show Steps p.tables e below (T9.setTop (mkF m 32 #[.val (.int p1), .val (.int p2), .val (.int p3), .val (.int p4), .val (.int p5), .val vz_2, .val vz_5, .val vz_9, .unset, .unset, .unset, .unset, .unset, .unset, .unset, .unset] [(.int p3), (.int ((p2.toUInt32 >>> ((8 : Int32) &&& 31).toUInt32).toInt32))])) _
    refine XS.iconst X9.here hx rfl (hb hby at_32) ?_
    exact kt
  obtain ⟨_, _, ⟨T14, L14, k14, n14⟩, -, X14, ⟨Lc14, hQ14, l14, y14, z14⟩, st14⟩ := Jvm.LawKit.callS X9 hx (y := (⟨"com/example/pourcode/pourcode/csv/CsvRecordGetPinLaw", "drawn", "(III)Ljava/lang/String;"⟩ : MethodName)) hown (mvT hZ (hw _ (List.mem_of_getElem? (i := 0) rfl))) (mvT hZ (hw _ (List.mem_of_getElem? (i := 1) rfl))) (mvT hZ (hw _ (List.mem_of_getElem? (i := 2) rfl))) (mvT hZ (hw _ (List.mem_of_getElem? (i := 3) rfl))) (by decide) (backOf (W := 0) (rm1 l Z a0 hw [] ((p2.toUInt32 >>> ((8 : Int32) &&& 31).toUInt32).toInt32) p3 (5 : Int32) cz T9.heap n0 Z9 SCS_10 (hCS)) hZ (hw _ (List.mem_of_getElem? (i := 3) rfl)) (hw _ (List.mem_of_getElem? (i := 2) rfl)) (by decide) (by decide)) (g := (mkF m 33 #[.val (.int p1), .val (.int p2), .val (.int p3), .val (.int p4), .val (.int p5), .val vz_2, .val vz_5, .val vz_9, .unset, .unset, .unset, .unset, .unset, .unset, .unset, .unset] [(.int (5 : Int32)), (.int p3), (.int ((p2.toUInt32 >>> ((8 : Int32) &&& 31).toUInt32).toInt32))])) rfl (by rw [hml]; rfl) (argsL := [(.int ((p2.toUInt32 >>> ((8 : Int32) &&& 31).toUInt32).toInt32)), (.int p3), (.int (5 : Int32))]) (rest := []) (lenOf pd_6 rfl) rfl (by show 2 * 0 + _ ≤ _; exact Nat.le_of_eq rfl) (hb hby at_33) (fun _ _ => ⟨rfl, rfl, (by decide : 6 + 2 ≤ _), (by decide : 15 + 5 ≤ _)⟩)
  dsimp only [Pt.U, Pt.locs, Pt.cells, Pt.slots] at X14 l14 y14 z14 st14 hQ14
  subst l14 y14 z14
  obtain ⟨vz_14, rfl, N14q, KC14, P14_0, R14_0⟩ := hQ14
  have N14 := Fr.app N9 N14q
  have Z14 : n0 ≤ T14.heap.size := Nat.le_trans Z9 KC14.1
  have mo14_0 := Nat.le_trans mo9_0 KC14.1
  have CR14 := CR9.trans (CHr.keep KC14 sf0 CR9.1)
  have K14 : Keep h0 T14.heap [] := K9.trans KC14 all0
  have SCS_15 := own_stak SCS_10 KC14 ns0
  have SS_vz_2_2_16 := own_Skeep SS_vz_2_2_11 KC14
  have SS_vz_5_5_17 := own_Skeep SS_vz_5_5_12 KC14
  have SS_vz_9_9_18 := own_Skeep SS_vz_9_9 KC14
  have SS_vz_14_14 : own_S Z T14.heap vz_14 := P14_0
  have pre14 : ∀ t, Steps p.tables e below (T14.setTop (mkF m 36 #[.val (.int p1), .val (.int p2), .val (.int p3), .val (.int p4), .val (.int p5), .val vz_2, .val vz_5, .val vz_9, .unset, .unset, .unset, .unset, .unset, .unset, .unset, .unset] [vz_14])) t → Steps p.tables e below (s₁.setTop (entryFrame m #[(.int p1), (.int p2), (.int p3), (.int p4), (.int p5)] maxLocals)) t := fun t kt => pre13 t (st14 _ kt)
  have pre19 : ∀ t, Steps p.tables e below (T14.setTop (mkF m 48 #[.val (.int p1), .val (.int p2), .val (.int p3), .val (.int p4), .val (.int p5), .val vz_2, .val vz_5, .val vz_9, .val vz_14, .val (.int ((1 : Int32) + (p3 &&& (3 : Int32)))), .unset, .unset, .unset, .unset, .unset, .unset] [(.int (1 : Int32)), (.int ((1 : Int32) + (p3 &&& (3 : Int32))))])) t → Steps p.tables e below (s₁.setTop (entryFrame m #[(.int p1), (.int p2), (.int p3), (.int p4), (.int p5)] maxLocals)) t := by
    intro t kt
    refine pre14 t ?_
    show Steps p.tables e below (T14.setTop (mkF m 36 #[.val (.int p1), .val (.int p2), .val (.int p3), .val (.int p4), .val (.int p5), .val vz_2, .val vz_5, .val vz_9, .unset, .unset, .unset, .unset, .unset, .unset, .unset, .unset] [vz_14])) _
    refine XS.astore X14.here hx rfl (hb hby at_36) rfl R14_0 (l' := #[.val (.int p1), .val (.int p2), .val (.int p3), .val (.int p4), .val (.int p5), .val vz_2, .val vz_5, .val vz_9, .val vz_14, .unset, .unset, .unset, .unset, .unset, .unset, .unset]) (by rcases ref_cases R14_0 with q | ⟨_, q⟩ <;> rw [q] <;> rfl) ?_
    show Steps p.tables e below (T14.setTop (mkF m 38 #[.val (.int p1), .val (.int p2), .val (.int p3), .val (.int p4), .val (.int p5), .val vz_2, .val vz_5, .val vz_9, .val vz_14, .unset, .unset, .unset, .unset, .unset, .unset, .unset] [])) _
    refine XS.iconst X14.here hx rfl (hb hby at_38) ?_
    show Steps p.tables e below (T14.setTop (mkF m 39 #[.val (.int p1), .val (.int p2), .val (.int p3), .val (.int p4), .val (.int p5), .val vz_2, .val vz_5, .val vz_9, .val vz_14, .unset, .unset, .unset, .unset, .unset, .unset, .unset] [(.int (1 : Int32))])) _
    refine XS.iloadN X14.here hx rfl (hb hby at_39) rfl ?_
    show Steps p.tables e below (T14.setTop (mkF m 40 #[.val (.int p1), .val (.int p2), .val (.int p3), .val (.int p4), .val (.int p5), .val vz_2, .val vz_5, .val vz_9, .val vz_14, .unset, .unset, .unset, .unset, .unset, .unset, .unset] [(.int p3), (.int (1 : Int32))])) _
    refine XS.iconst X14.here hx rfl (hb hby at_40) ?_
    show Steps p.tables e below (T14.setTop (mkF m 41 #[.val (.int p1), .val (.int p2), .val (.int p3), .val (.int p4), .val (.int p5), .val vz_2, .val vz_5, .val vz_9, .val vz_14, .unset, .unset, .unset, .unset, .unset, .unset, .unset] [(.int (3 : Int32)), (.int p3), (.int (1 : Int32))])) _
    refine XS.iand X14.here hx rfl (hb hby at_41) rfl ?_
    show Steps p.tables e below (T14.setTop (mkF m 42 #[.val (.int p1), .val (.int p2), .val (.int p3), .val (.int p4), .val (.int p5), .val vz_2, .val vz_5, .val vz_9, .val vz_14, .unset, .unset, .unset, .unset, .unset, .unset, .unset] [(.int (p3 &&& (3 : Int32))), (.int (1 : Int32))])) _
    refine XS.iadd X14.here hx rfl (hb hby at_42) rfl ?_
    show Steps p.tables e below (T14.setTop (mkF m 43 #[.val (.int p1), .val (.int p2), .val (.int p3), .val (.int p4), .val (.int p5), .val vz_2, .val vz_5, .val vz_9, .val vz_14, .unset, .unset, .unset, .unset, .unset, .unset, .unset] [(.int ((1 : Int32) + (p3 &&& (3 : Int32))))])) _
    refine XS.istore X14.here hx rfl (hb hby at_43) rfl (l' := #[.val (.int p1), .val (.int p2), .val (.int p3), .val (.int p4), .val (.int p5), .val vz_2, .val vz_5, .val vz_9, .val vz_14, .val (.int ((1 : Int32) + (p3 &&& (3 : Int32)))), .unset, .unset, .unset, .unset, .unset, .unset]) rfl ?_
    show Steps p.tables e below (T14.setTop (mkF m 45 #[.val (.int p1), .val (.int p2), .val (.int p3), .val (.int p4), .val (.int p5), .val vz_2, .val vz_5, .val vz_9, .val vz_14, .val (.int ((1 : Int32) + (p3 &&& (3 : Int32)))), .unset, .unset, .unset, .unset, .unset, .unset] [])) _
    refine XS.iload X14.here hx rfl (hb hby at_45) rfl ?_
    show Steps p.tables e below (T14.setTop (mkF m 47 #[.val (.int p1), .val (.int p2), .val (.int p3), .val (.int p4), .val (.int p5), .val vz_2, .val vz_5, .val vz_9, .val vz_14, .val (.int ((1 : Int32) + (p3 &&& (3 : Int32)))), .unset, .unset, .unset, .unset, .unset, .unset] [(.int ((1 : Int32) + (p3 &&& (3 : Int32))))])) _
    refine XS.iconst X14.here hx rfl (hb hby at_47) ?_
    exact kt
  by_cases hc48 : ((1 : Int32) + (p3 &&& (3 : Int32))) = (1 : Int32)
  · have pre20 : ∀ t, Steps p.tables e below (T14.setTop (mkF m 51 #[.val (.int p1), .val (.int p2), .val (.int p3), .val (.int p4), .val (.int p5), .val vz_2, .val vz_5, .val vz_9, .val vz_14, .val (.int ((1 : Int32) + (p3 &&& (3 : Int32)))), .unset, .unset, .unset, .unset, .unset, .unset] [])) t → Steps p.tables e below (s₁.setTop (entryFrame m #[(.int p1), (.int p2), (.int p3), (.int p4), (.int p5)] maxLocals)) t := by
      intro t kt
      refine pre19 t ?_
      show Steps p.tables e below (T14.setTop (mkF m 48 #[.val (.int p1), .val (.int p2), .val (.int p3), .val (.int p4), .val (.int p5), .val vz_2, .val vz_5, .val vz_9, .val vz_14, .val (.int ((1 : Int32) + (p3 &&& (3 : Int32)))), .unset, .unset, .unset, .unset, .unset, .unset] [(.int (1 : Int32)), (.int ((1 : Int32) + (p3 &&& (3 : Int32))))])) _
      refine XS.icmpNo X14.here hx rfl (hb hby at_48) rfl (teq hc48).2 ?_
      exact kt
    have pre21 : ∀ t, Steps p.tables e below (T14.setTop (mkF m 52 #[.val (.int p1), .val (.int p2), .val (.int p3), .val (.int p4), .val (.int p5), .val vz_2, .val vz_5, .val vz_9, .val vz_14, .val (.int ((1 : Int32) + (p3 &&& (3 : Int32)))), .unset, .unset, .unset, .unset, .unset, .unset] [(.int (1 : Int32))])) t → Steps p.tables e below (s₁.setTop (entryFrame m #[(.int p1), (.int p2), (.int p3), (.int p4), (.int p5)] maxLocals)) t := by
      intro t kt
      refine pre20 t ?_
      show Steps p.tables e below (T14.setTop (mkF m 51 #[.val (.int p1), .val (.int p2), .val (.int p3), .val (.int p4), .val (.int p5), .val vz_2, .val vz_5, .val vz_9, .val vz_14, .val (.int ((1 : Int32) + (p3 &&& (3 : Int32)))), .unset, .unset, .unset, .unset, .unset, .unset] [])) _
      refine XS.iconst X14.here hx rfl (hb hby at_51) ?_
      exact kt
    obtain ⟨T22, h22, k22, X22, e22, E22, A22, O22, st22⟩ := newR X14 hx hZ hown (hw _ (List.mem_of_getElem? (i := 30) rfl)) (hw _ (List.mem_of_getElem? (i := 31) rfl)) rfl (g := (mkF m 52 #[.val (.int p1), .val (.int p2), .val (.int p3), .val (.int p4), .val (.int p5), .val vz_2, .val vz_5, .val vz_9, .val vz_14, .val (.int ((1 : Int32) + (p3 &&& (3 : Int32)))), .unset, .unset, .unset, .unset, .unset, .unset] [(.int (1 : Int32))])) rfl (hb hby at_52) rfl (by decide) (cap := 1) (by decide) (by decide) (by decide) (by decide)
    obtain ⟨b22, g22⟩ : ∃ z, z = T14.heap.size := ⟨_, rfl⟩
    have g_b22 : n0 ≤ b22 := Nat.le_trans Z14 (Nat.le_of_eq g22.symm)
    have sz_b22 : h0.size ≤ b22 := Nat.le_trans K14.1 (Nat.le_of_eq g22.symm)
    rw [← g22] at A22 st22
    have K22 : Keep h0 h22 [] := K14.ext E22
    have Z22 : n0 ≤ h22.size := Nat.le_trans Z14 E22.1
    have mo22_0 := Nat.le_trans mo14_0 E22.1
    have CR22 := CR14.trans (CHr.ext E22 CR14.1)
    have SCS_23 := SCS_15.ext E22
    have SS_vz_2_2_24 := own_Sext SS_vz_2_2_16 E22
    have SS_vz_5_5_25 := own_Sext SS_vz_5_5_17 E22
    have SS_vz_9_9_26 := own_Sext SS_vz_9_9_18 E22
    have SS_vz_14_14_27 := own_Sext SS_vz_14_14 E22
    have V_b22 : Arv Z h22 b22 k22 (.object "java/lang/String") (1 : Int32) [.null] .null := (Arv.new A22 (by decide)).pad (pad_rep [] .null 1)
    have pre22 : ∀ t, Steps p.tables e below (T22.setTop (mkF m 55 #[.val (.int p1), .val (.int p2), .val (.int p3), .val (.int p4), .val (.int p5), .val vz_2, .val vz_5, .val vz_9, .val vz_14, .val (.int ((1 : Int32) + (p3 &&& (3 : Int32)))), .unset, .unset, .unset, .unset, .unset, .unset] [(.ref b22)])) t → Steps p.tables e below (s₁.setTop (entryFrame m #[(.int p1), (.int p2), (.int p3), (.int p4), (.int p5)] maxLocals)) t := fun t kt => pre21 t (st22 _ kt)
    have pre28 : ∀ t, Steps p.tables e below (T22.setTop (mkF m 59 #[.val (.int p1), .val (.int p2), .val (.int p3), .val (.int p4), .val (.int p5), .val vz_2, .val vz_5, .val vz_9, .val vz_14, .val (.int ((1 : Int32) + (p3 &&& (3 : Int32)))), .unset, .unset, .unset, .unset, .unset, .unset] [vz_2, (.int (0 : Int32)), (.ref b22), (.ref b22)])) t → Steps p.tables e below (s₁.setTop (entryFrame m #[(.int p1), (.int p2), (.int p3), (.int p4), (.int p5)] maxLocals)) t := by
      intro t kt
      refine pre22 t ?_
      show Steps p.tables e below (T22.setTop (mkF m 55 #[.val (.int p1), .val (.int p2), .val (.int p3), .val (.int p4), .val (.int p5), .val vz_2, .val vz_5, .val vz_9, .val vz_14, .val (.int ((1 : Int32) + (p3 &&& (3 : Int32)))), .unset, .unset, .unset, .unset, .unset, .unset] [(.ref b22)])) _
      refine XS.dup X22.here hx rfl (hb hby at_55) rfl rfl ?_
      show Steps p.tables e below (T22.setTop (mkF m 56 #[.val (.int p1), .val (.int p2), .val (.int p3), .val (.int p4), .val (.int p5), .val vz_2, .val vz_5, .val vz_9, .val vz_14, .val (.int ((1 : Int32) + (p3 &&& (3 : Int32)))), .unset, .unset, .unset, .unset, .unset, .unset] [(.ref b22), (.ref b22)])) _
      refine XS.iconst X22.here hx rfl (hb hby at_56) ?_
      show Steps p.tables e below (T22.setTop (mkF m 57 #[.val (.int p1), .val (.int p2), .val (.int p3), .val (.int p4), .val (.int p5), .val vz_2, .val vz_5, .val vz_9, .val vz_14, .val (.int ((1 : Int32) + (p3 &&& (3 : Int32)))), .unset, .unset, .unset, .unset, .unset, .unset] [(.int (0 : Int32)), (.ref b22), (.ref b22)])) _
      refine XS.aload X22.here hx rfl (hb hby at_57) rfl R2_0 ?_
      exact kt
    obtain ⟨cl29, Ar29, q29, S29, M29, H29, G29⟩ := (id V_b22)
    have hin29 : ¬ ((0 : Int32) < 0 ∨ cl29.slots.size ≤ ((0 : Int32)).toNatClampNeg) := inb_of S29 ⟨by decide, by decide⟩
    obtain ⟨T29, h29, X29, e29, W29, st29⟩ := stR X22 hx hZ e22 Ar29 (j := (0 : Int32)) hin29 rfl (own_sto Ar29 q29 O22 SS_vz_2_2_24) (g := (mkF m 59 #[.val (.int p1), .val (.int p2), .val (.int p3), .val (.int p4), .val (.int p5), .val vz_2, .val vz_5, .val vz_9, .val vz_14, .val (.int ((1 : Int32) + (p3 &&& (3 : Int32)))), .unset, .unset, .unset, .unset, .unset, .unset] [vz_2, (.int (0 : Int32)), (.ref b22), (.ref b22)])) rfl rfl (hb hby at_59)
    have V_b22_29 := Arv.set Ar29 q29 S29 M29 H29 G29 (own_fits R2_0) W29 0 rfl (Nat.le_of_ble_eq_true rfl)
    have N29 := Fr.snoc X29 N14 g_b22
    have K29 : Keep h0 h29 [] := K22.wr W29 (Or.inr sz_b22)
    have Z29 : n0 ≤ h29.size := Nat.le_trans Z22 (Keep.of_wr W29).1
    have mo29_0 := Nat.le_trans mo22_0 (Keep.of_wr W29).1
    have CR29 := CR22.trans (CHr.wr W29 (Safe.arv (hZ.alike) V_b22 (by decide)) CR22.1)
    have SCS_30 := SCS_23.wr W29
    have SS_vz_2_2_31 := own_Swr SS_vz_2_2_24 W29
    have SS_vz_5_5_32 := own_Swr SS_vz_5_5_25 W29
    have SS_vz_9_9_33 := own_Swr SS_vz_9_9_26 W29
    have SS_vz_14_14_34 := own_Swr SS_vz_14_14_27 W29
    have V_b22_29' : Arv Z h29 b22 k22 (.object "java/lang/String") (1 : Int32) [vz_2] .null := V_b22_29
    have pre29 : ∀ t, Steps p.tables e below (T29.setTop (mkF m 60 #[.val (.int p1), .val (.int p2), .val (.int p3), .val (.int p4), .val (.int p5), .val vz_2, .val vz_5, .val vz_9, .val vz_14, .val (.int ((1 : Int32) + (p3 &&& (3 : Int32)))), .unset, .unset, .unset, .unset, .unset, .unset] [(.ref b22)])) t → Steps p.tables e below (s₁.setTop (entryFrame m #[(.int p1), (.int p2), (.int p3), (.int p4), (.int p5)] maxLocals)) t := fun t kt => pre28 t (st29 _ kt)
    have pre36 : ∀ t, Steps p.tables e below (T29.setTop (mkF m 146 #[.val (.int p1), .val (.int p2), .val (.int p3), .val (.int p4), .val (.int p5), .val vz_2, .val vz_5, .val vz_9, .val vz_14, .val (.int ((1 : Int32) + (p3 &&& (3 : Int32)))), .val (.ref b22), .unset, .unset, .unset, .unset, .unset] [])) t → Steps p.tables e below (s₁.setTop (entryFrame m #[(.int p1), (.int p2), (.int p3), (.int p4), (.int p5)] maxLocals)) t := by
      intro t kt
      refine pre29 t ?_
      show Steps p.tables e below (T29.setTop (mkF m 60 #[.val (.int p1), .val (.int p2), .val (.int p3), .val (.int p4), .val (.int p5), .val vz_2, .val vz_5, .val vz_9, .val vz_14, .val (.int ((1 : Int32) + (p3 &&& (3 : Int32)))), .unset, .unset, .unset, .unset, .unset, .unset] [(.ref b22)])) _
      refine XS.astore X29.here hx rfl (hb hby at_60) rfl rfl (l' := #[.val (.int p1), .val (.int p2), .val (.int p3), .val (.int p4), .val (.int p5), .val vz_2, .val vz_5, .val vz_9, .val vz_14, .val (.int ((1 : Int32) + (p3 &&& (3 : Int32)))), .val (.ref b22), .unset, .unset, .unset, .unset, .unset]) rfl ?_
      show Steps p.tables e below (T29.setTop (mkF m 62 #[.val (.int p1), .val (.int p2), .val (.int p3), .val (.int p4), .val (.int p5), .val vz_2, .val vz_5, .val vz_9, .val vz_14, .val (.int ((1 : Int32) + (p3 &&& (3 : Int32)))), .val (.ref b22), .unset, .unset, .unset, .unset, .unset] [])) _
      refine XS.goto X29.here hx rfl (pc0 := 62) (pc' := 146) rfl (hb hby at_62) (by decide) (by decide) ?_
      exact kt
    rw [hc48] at pre36
    have pre37 : ∀ t, Steps p.tables e below (T29.setTop (mkF m 155 #[.val (.int p1), .val (.int p2), .val (.int p3), .val (.int p4), .val (.int p5), .val vz_2, .val vz_5, .val vz_9, .val vz_14, .val (.int (1 : Int32)), .val (.ref b22), .val (.int ((p4 &&& (2147483647 : Int32)) % (1 : Int32))), .unset, .unset, .unset, .unset] [])) t → Steps p.tables e below (s₁.setTop (entryFrame m #[(.int p1), (.int p2), (.int p3), (.int p4), (.int p5)] maxLocals)) t := by
      intro t kt
      refine pre36 t ?_
      show Steps p.tables e below (T29.setTop (mkF m 146 #[.val (.int p1), .val (.int p2), .val (.int p3), .val (.int p4), .val (.int p5), .val vz_2, .val vz_5, .val vz_9, .val vz_14, .val (.int (1 : Int32)), .val (.ref b22), .unset, .unset, .unset, .unset, .unset] [])) _
      refine XS.iloadN X29.here hx rfl (hb hby at_146) rfl ?_
      show Steps p.tables e below (T29.setTop (mkF m 147 #[.val (.int p1), .val (.int p2), .val (.int p3), .val (.int p4), .val (.int p5), .val vz_2, .val vz_5, .val vz_9, .val vz_14, .val (.int (1 : Int32)), .val (.ref b22), .unset, .unset, .unset, .unset, .unset] [(.int p4)])) _
      refine X29.ldcInt hx hown (mvT hZ (hw _ (List.mem_of_getElem? (i := 32) rfl))) (g := (mkF m 147 #[.val (.int p1), .val (.int p2), .val (.int p3), .val (.int p4), .val (.int p5), .val vz_2, .val vz_5, .val vz_9, .val vz_14, .val (.int (1 : Int32)), .val (.ref b22), .unset, .unset, .unset, .unset, .unset] [(.int p4)])) rfl (hb hby at_147) _ ?_
      show Steps p.tables e below (T29.setTop (mkF m 149 #[.val (.int p1), .val (.int p2), .val (.int p3), .val (.int p4), .val (.int p5), .val vz_2, .val vz_5, .val vz_9, .val vz_14, .val (.int (1 : Int32)), .val (.ref b22), .unset, .unset, .unset, .unset, .unset] [(.int (2147483647 : Int32)), (.int p4)])) _
      refine XS.iand X29.here hx rfl (hb hby at_149) rfl ?_
      show Steps p.tables e below (T29.setTop (mkF m 150 #[.val (.int p1), .val (.int p2), .val (.int p3), .val (.int p4), .val (.int p5), .val vz_2, .val vz_5, .val vz_9, .val vz_14, .val (.int (1 : Int32)), .val (.ref b22), .unset, .unset, .unset, .unset, .unset] [(.int (p4 &&& (2147483647 : Int32)))])) _
      refine XS.iload X29.here hx rfl (hb hby at_150) rfl ?_
      show Steps p.tables e below (T29.setTop (mkF m 152 #[.val (.int p1), .val (.int p2), .val (.int p3), .val (.int p4), .val (.int p5), .val vz_2, .val vz_5, .val vz_9, .val vz_14, .val (.int (1 : Int32)), .val (.ref b22), .unset, .unset, .unset, .unset, .unset] [(.int (1 : Int32)), (.int (p4 &&& (2147483647 : Int32)))])) _
      refine iremM X29 hx rfl (hb hby at_152) rfl (by decide) ?_
      show Steps p.tables e below (T29.setTop (mkF m 153 #[.val (.int p1), .val (.int p2), .val (.int p3), .val (.int p4), .val (.int p5), .val vz_2, .val vz_5, .val vz_9, .val vz_14, .val (.int (1 : Int32)), .val (.ref b22), .unset, .unset, .unset, .unset, .unset] [(.int ((p4 &&& (2147483647 : Int32)) % (1 : Int32)))])) _
      refine XS.istore X29.here hx rfl (hb hby at_153) rfl (l' := #[.val (.int p1), .val (.int p2), .val (.int p3), .val (.int p4), .val (.int p5), .val vz_2, .val vz_5, .val vz_9, .val vz_14, .val (.int (1 : Int32)), .val (.ref b22), .val (.int ((p4 &&& (2147483647 : Int32)) % (1 : Int32))), .unset, .unset, .unset, .unset]) rfl ?_
      exact kt
    obtain ⟨ic, hic, eic⟩ := own_col1 p4
    rw [eic] at pre37
    have pre38 : ∀ t, Steps p.tables e below (T29.setTop (mkF m 162 #[.val (.int p1), .val (.int p2), .val (.int p3), .val (.int p4), .val (.int p5), .val vz_2, .val vz_5, .val vz_9, .val vz_14, .val (.int (1 : Int32)), .val (.ref b22), .val (.int (Int32.ofNat ic)), .val (.int (p5 &&& (7 : Int32))), .unset, .unset, .unset] [])) t → Steps p.tables e below (s₁.setTop (entryFrame m #[(.int p1), (.int p2), (.int p3), (.int p4), (.int p5)] maxLocals)) t := by
      intro t kt
      refine pre37 t ?_
      show Steps p.tables e below (T29.setTop (mkF m 155 #[.val (.int p1), .val (.int p2), .val (.int p3), .val (.int p4), .val (.int p5), .val vz_2, .val vz_5, .val vz_9, .val vz_14, .val (.int (1 : Int32)), .val (.ref b22), .val (.int (Int32.ofNat ic)), .unset, .unset, .unset, .unset] [])) _
      refine XS.iload X29.here hx rfl (hb hby at_155) rfl ?_
      show Steps p.tables e below (T29.setTop (mkF m 157 #[.val (.int p1), .val (.int p2), .val (.int p3), .val (.int p4), .val (.int p5), .val vz_2, .val vz_5, .val vz_9, .val vz_14, .val (.int (1 : Int32)), .val (.ref b22), .val (.int (Int32.ofNat ic)), .unset, .unset, .unset, .unset] [(.int p5)])) _
      refine XS.bipush X29.here hx rfl (hb hby at_157) ?_
      show Steps p.tables e below (T29.setTop (mkF m 159 #[.val (.int p1), .val (.int p2), .val (.int p3), .val (.int p4), .val (.int p5), .val vz_2, .val vz_5, .val vz_9, .val vz_14, .val (.int (1 : Int32)), .val (.ref b22), .val (.int (Int32.ofNat ic)), .unset, .unset, .unset, .unset] [(.int (7 : Int32)), (.int p5)])) _
      refine XS.iand X29.here hx rfl (hb hby at_159) rfl ?_
      show Steps p.tables e below (T29.setTop (mkF m 160 #[.val (.int p1), .val (.int p2), .val (.int p3), .val (.int p4), .val (.int p5), .val vz_2, .val vz_5, .val vz_9, .val vz_14, .val (.int (1 : Int32)), .val (.ref b22), .val (.int (Int32.ofNat ic)), .unset, .unset, .unset, .unset] [(.int (p5 &&& (7 : Int32)))])) _
      refine XS.istore X29.here hx rfl (hb hby at_160) rfl (l' := #[.val (.int p1), .val (.int p2), .val (.int p3), .val (.int p4), .val (.int p5), .val vz_2, .val vz_5, .val vz_9, .val vz_14, .val (.int (1 : Int32)), .val (.ref b22), .val (.int (Int32.ofNat ic)), .val (.int (p5 &&& (7 : Int32))), .unset, .unset, .unset]) rfl ?_
      exact kt
    obtain ⟨T39, h39, X39, e39, E39, A39, D39, -, st39⟩ := newO X29 hx hZ hown (hw _ (List.mem_of_getElem? (i := 33) rfl)) (hw _ (List.mem_of_getElem? (i := 34) rfl)) (hw _ (List.mem_of_getElem? (i := 35) rfl)) e29 (g := (mkF m 162 #[.val (.int p1), .val (.int p2), .val (.int p3), .val (.int p4), .val (.int p5), .val vz_2, .val vz_5, .val vz_9, .val vz_14, .val (.int (1 : Int32)), .val (.ref b22), .val (.int (Int32.ofNat ic)), .val (.int (p5 &&& (7 : Int32))), .unset, .unset, .unset] [])) rfl (hb hby at_162) (by decide) (by decide)
    obtain ⟨b39, g39⟩ : ∃ z, z = h29.size := ⟨_, rfl⟩
    have ne_b22_b39 : b22 ≠ b39 := Nat.ne_of_lt (Nat.lt_of_lt_of_le V_b22_29'.lt (Nat.le_of_eq g39.symm))
    have g_b39 : n0 ≤ b39 := Nat.le_trans Z29 (Nat.le_of_eq g39.symm)
    have sz_b39 : h0.size ≤ b39 := Nat.le_trans K29.1 (Nat.le_of_eq g39.symm)
    rw [← g39] at A39 D39 st39
    have K39 : Keep h0 h39 [] := K29.ext E39
    have Z39 : n0 ≤ h39.size := Nat.le_trans Z29 E39.1
    have mo39_0 := Nat.le_trans mo29_0 E39.1
    have CR39 := CR29.trans (CHr.ext E39 CR29.1)
    have SCS_40 := SCS_30.ext E39
    have SS_vz_2_2_41 := own_Sext SS_vz_2_2_31 E39
    have SS_vz_5_5_42 := own_Sext SS_vz_5_5_32 E39
    have SS_vz_9_9_43 := own_Sext SS_vz_9_9_33 E39
    have SS_vz_14_14_44 := own_Sext SS_vz_14_14_34 E39
    have V_b22_45 := V_b22_29'.ext E39
    have F_file_b39 : Fld Z h39 b39 "com/example/pourcode/pourcode/csv/CsvRecord" "file" "Ljava/lang/String;" .null := D39 (Or.inr (hw _ (List.mem_of_getElem? (i := 44) rfl))) (ty := (.object "java/lang/String")) (by decide)
    have F_line_b39 : Fld Z h39 b39 "com/example/pourcode/pourcode/csv/CsvRecord" "line" "I" (.int (0 : Int32)) := D39 (Or.inr (hw _ (List.mem_of_getElem? (i := 46) rfl))) (ty := .int) (by decide)
    have F_values_b39 : Fld Z h39 b39 "com/example/pourcode/pourcode/csv/CsvRecord" "values" "[Ljava/lang/String;" .null := D39 (Or.inr (hw _ (List.mem_of_getElem? (i := 48) rfl))) (ty := (.array (.object "java/lang/String"))) (by decide)
    have F_size_b39 : Fld Z h39 b39 "com/example/pourcode/pourcode/csv/CsvRecord" "size" "I" (.int (0 : Int32)) := D39 (Or.inr (hw _ (List.mem_of_getElem? (i := 50) rfl))) (ty := .int) (by decide)
    have F_text_b39 : Fld Z h39 b39 "com/example/pourcode/pourcode/csv/CsvRecord" "text" "[B" .null := D39 (Or.inr (hw _ (List.mem_of_getElem? (i := 52) rfl))) (ty := (.array .byte)) (by decide)
    have pre39 : ∀ t, Steps p.tables e below (T39.setTop (mkF m 165 #[.val (.int p1), .val (.int p2), .val (.int p3), .val (.int p4), .val (.int p5), .val vz_2, .val vz_5, .val vz_9, .val vz_14, .val (.int (1 : Int32)), .val (.ref b22), .val (.int (Int32.ofNat ic)), .val (.int (p5 &&& (7 : Int32))), .unset, .unset, .unset] [(.ref b39)])) t → Steps p.tables e below (s₁.setTop (entryFrame m #[(.int p1), (.int p2), (.int p3), (.int p4), (.int p5)] maxLocals)) t := fun t kt => pre38 t (st39 _ kt)
    have pre46 : ∀ t, Steps p.tables e below (T39.setTop (mkF m 166 #[.val (.int p1), .val (.int p2), .val (.int p3), .val (.int p4), .val (.int p5), .val vz_2, .val vz_5, .val vz_9, .val vz_14, .val (.int (1 : Int32)), .val (.ref b22), .val (.int (Int32.ofNat ic)), .val (.int (p5 &&& (7 : Int32))), .unset, .unset, .unset] [(.ref b39), (.ref b39)])) t → Steps p.tables e below (s₁.setTop (entryFrame m #[(.int p1), (.int p2), (.int p3), (.int p4), (.int p5)] maxLocals)) t := by
      intro t kt
      refine pre39 t ?_
      show Steps p.tables e below (T39.setTop (mkF m 165 #[.val (.int p1), .val (.int p2), .val (.int p3), .val (.int p4), .val (.int p5), .val vz_2, .val vz_5, .val vz_9, .val vz_14, .val (.int (1 : Int32)), .val (.ref b22), .val (.int (Int32.ofNat ic)), .val (.int (p5 &&& (7 : Int32))), .unset, .unset, .unset] [(.ref b39)])) _
      refine XS.dup X39.here hx rfl (hb hby at_165) rfl rfl ?_
      exact kt
    obtain ⟨a47, T47, h47, k47, b47, kb47, X47, e47, E47, hS47, hk47, hZ, hown, A47, C47, F47, V47, la47, lb47, CQ47, Li47, sf47, st47⟩ := ldcCH (s := s) (vm0 := s.vm) (text := own_t36) X39 hx hZ hown (hw _ (List.mem_of_getElem? (i := 36) rfl)) wS e39 hS0 mo39_0 hEL own_mem36 CR39.1 (vs := (own_cs36.map fun c => c.toInt8.toInt32).map Value.int) (z := (1 : Int32)) own_ht36 (by decide) (by decide +kernel) (g := (mkF m 166 #[.val (.int p1), .val (.int p2), .val (.int p3), .val (.int p4), .val (.int p5), .val vz_2, .val vz_5, .val vz_9, .val vz_14, .val (.int (1 : Int32)), .val (.ref b22), .val (.int (Int32.ofNat ic)), .val (.int (p5 &&& (7 : Int32))), .unset, .unset, .unset] [(.ref b39), (.ref b39)])) rfl (hb hby at_166) (n := 4) (by decide +kernel) (by decide) (by decide) (by decide)
    have K47 : Keep h0 h47 [] := K39.ext E47
    have Z47 : n0 ≤ h47.size := Nat.le_trans Z39 E47.1
    have mo47_0 := Nat.le_trans mo39_0 E47.1
    have SCS_48 := SCS_40.ext E47
    have SS_vz_2_2_49 := own_Sext SS_vz_2_2_41 E47
    have SS_vz_5_5_50 := own_Sext SS_vz_5_5_42 E47
    have SS_vz_9_9_51 := own_Sext SS_vz_9_9_43 E47
    have SS_vz_14_14_52 := own_Sext SS_vz_14_14_44 E47
    have V_b22_53 := V_b22_45.ext E47
    have A39_54 := A39.ext E47
    have F_file_b39_55 := F_file_b39.ext E47
    have F_line_b39_56 := F_line_b39.ext E47
    have F_values_b39_57 := F_values_b39.ext E47
    have F_size_b39_58 := F_size_b39.ext E47
    have F_text_b39_59 := F_text_b39.ext E47
    have CR47 := CR39.trans CQ47
    have nel47_b22 := sf47 _ (Safe.arv (hZ.alike) V_b22_53 (by decide))
    have nel47_b39 := sf47 _ (Safe.exa (hZ.alike) A39_54 (by decide) (by decide))
    have pre47 : ∀ t, Steps p.tables e below (T47.setTop (mkF m 168 #[.val (.int p1), .val (.int p2), .val (.int p3), .val (.int p4), .val (.int p5), .val vz_2, .val vz_5, .val vz_9, .val vz_14, .val (.int (1 : Int32)), .val (.ref b22), .val (.int (Int32.ofNat ic)), .val (.int (p5 &&& (7 : Int32))), .unset, .unset, .unset] [(.ref a47), (.ref b39), (.ref b39)])) t → Steps p.tables e below (s₁.setTop (entryFrame m #[(.int p1), (.int p2), (.int p3), (.int p4), (.int p5)] maxLocals)) t := fun t kt => pre46 t (st47 _ kt)
    have pre60 : ∀ t, Steps p.tables e below (T47.setTop (mkF m 174 #[.val (.int p1), .val (.int p2), .val (.int p3), .val (.int p4), .val (.int p5), .val vz_2, .val vz_5, .val vz_9, .val vz_14, .val (.int (1 : Int32)), .val (.ref b22), .val (.int (Int32.ofNat ic)), .val (.int (p5 &&& (7 : Int32))), .unset, .unset, .unset] [.null, (.int (p5 &&& (7 : Int32))), (.ref b22), (.int (1 : Int32)), (.ref a47), (.ref b39), (.ref b39)])) t → Steps p.tables e below (s₁.setTop (entryFrame m #[(.int p1), (.int p2), (.int p3), (.int p4), (.int p5)] maxLocals)) t := by
      intro t kt
      refine pre47 t ?_
      show Steps p.tables e below (T47.setTop (mkF m 168 #[.val (.int p1), .val (.int p2), .val (.int p3), .val (.int p4), .val (.int p5), .val vz_2, .val vz_5, .val vz_9, .val vz_14, .val (.int (1 : Int32)), .val (.ref b22), .val (.int (Int32.ofNat ic)), .val (.int (p5 &&& (7 : Int32))), .unset, .unset, .unset] [(.ref a47), (.ref b39), (.ref b39)])) _
      refine XS.iconst X47.here hx rfl (hb hby at_168) ?_
      show Steps p.tables e below (T47.setTop (mkF m 169 #[.val (.int p1), .val (.int p2), .val (.int p3), .val (.int p4), .val (.int p5), .val vz_2, .val vz_5, .val vz_9, .val vz_14, .val (.int (1 : Int32)), .val (.ref b22), .val (.int (Int32.ofNat ic)), .val (.int (p5 &&& (7 : Int32))), .unset, .unset, .unset] [(.int (1 : Int32)), (.ref a47), (.ref b39), (.ref b39)])) _
      refine XS.aload X47.here hx rfl (hb hby at_169) rfl rfl ?_
      show Steps p.tables e below (T47.setTop (mkF m 171 #[.val (.int p1), .val (.int p2), .val (.int p3), .val (.int p4), .val (.int p5), .val vz_2, .val vz_5, .val vz_9, .val vz_14, .val (.int (1 : Int32)), .val (.ref b22), .val (.int (Int32.ofNat ic)), .val (.int (p5 &&& (7 : Int32))), .unset, .unset, .unset] [(.ref b22), (.int (1 : Int32)), (.ref a47), (.ref b39), (.ref b39)])) _
      refine XS.iload X47.here hx rfl (hb hby at_171) rfl ?_
      show Steps p.tables e below (T47.setTop (mkF m 173 #[.val (.int p1), .val (.int p2), .val (.int p3), .val (.int p4), .val (.int p5), .val vz_2, .val vz_5, .val vz_9, .val vz_14, .val (.int (1 : Int32)), .val (.ref b22), .val (.int (Int32.ofNat ic)), .val (.int (p5 &&& (7 : Int32))), .unset, .unset, .unset] [(.int (p5 &&& (7 : Int32))), (.ref b22), (.int (1 : Int32)), (.ref a47), (.ref b39), (.ref b39)])) _
      refine XS.aconstNull X47.here hx rfl (hb hby at_173) ?_
      exact kt
    obtain ⟨_, _, ⟨T61, L61, k61, n61⟩, -, X61, ⟨Lc61, hQ61, l61, y61, z61⟩, st61⟩ := X47.specialBack hx (y := (⟨"com/example/pourcode/pourcode/csv/CsvRecord", "<init>", "(Ljava/lang/String;I[Ljava/lang/String;I[B)V"⟩ : MethodName)) rfl hown (mvT hZ (hw _ (List.mem_of_getElem? (i := 39) rfl))) (mvT hZ (hw _ (List.mem_of_getElem? (i := 40) rfl))) (mvT hZ (hw _ (List.mem_of_getElem? (i := 41) rfl))) (by decide) (backOf (W := 1) (rm7 l Z a0 hw [] b39 a47 (1 : Int32) b22 (p5 &&& (7 : Int32)) h47 n0 Z47 A39_54 F_file_b39_55 F_line_b39_56 F_values_b39_57 F_size_b39_58 F_text_b39_59 g_b39) hZ (hw _ (List.mem_of_getElem? (i := 41) rfl)) (hw _ (List.mem_of_getElem? (i := 35) rfl)) (by decide) (by decide)) (g := (mkF m 174 #[.val (.int p1), .val (.int p2), .val (.int p3), .val (.int p4), .val (.int p5), .val vz_2, .val vz_5, .val vz_9, .val vz_14, .val (.int (1 : Int32)), .val (.ref b22), .val (.int (Int32.ofNat ic)), .val (.int (p5 &&& (7 : Int32))), .unset, .unset, .unset] [.null, (.int (p5 &&& (7 : Int32))), (.ref b22), (.int (1 : Int32)), (.ref a47), (.ref b39), (.ref b39)])) rfl (by rw [hml]; rfl) (Steps.refl _) (a := b39) (argsL := [(.ref a47), (.int (1 : Int32)), (.ref b22), (.int (p5 &&& (7 : Int32))), .null]) (rest := [(.ref b39)]) (lenOf pd_7 rfl) rfl (by show 2 * 0 + _ ≤ _; exact Nat.le_of_eq rfl) (hb hby at_174) (fun _ _ => ⟨rfl, e47, (by decide : 12 + 0 ≤ _), (by decide : 34 + 0 ≤ _)⟩)
    dsimp only [Pt.U, Pt.locs, Pt.cells, Pt.slots] at X61 l61 y61 z61 st61 hQ61
    subst l61 y61 z61
    obtain ⟨rfl, N61q, KC61, P61_0, P61_1, P61_2⟩ := hQ61
    have N61 := Fr.app N29 N61q
    have Z61 : n0 ≤ T61.heap.size := Nat.le_trans Z47 KC61.1
    have mo61_0 := Nat.le_trans hk47 KC61.1
    have CR61 := CR47.trans (CHr.keep KC61 (sfS (Safe.exa (hZ.alike) A39_54 (by decide) (by decide)) sf0) CR47.1)
    have K61 : Keep h0 T61.heap [] := K47.trans KC61 (allS (Or.inr sz_b39) all0)
    have SCS_62 := own_stak SCS_48 KC61 (nsS A39_54.nostat ns0)
    have SS_vz_2_2_63 := own_Skeep SS_vz_2_2_49 KC61
    have SS_vz_5_5_64 := own_Skeep SS_vz_5_5_50 KC61
    have SS_vz_9_9_65 := own_Skeep SS_vz_9_9_51 KC61
    have SS_vz_14_14_66 := own_Skeep SS_vz_14_14_52 KC61
    have V_b22_67 := V_b22_53.keep KC61 (ninS ne_b22_b39 nin0)
    have A39_68 := A39_54.keep KC61
    have A47_74 := A47.keep KC61
    have C47_75 := C47.keep KC61 (ninS (Ne.symm nel47_b39.1) nin0)
    have F47_76 := F47.keep KC61 (ninS (Ne.symm nel47_b39.1) nin0)
    have V47_77 := V47.keep KC61 (ninS (Ne.symm nel47_b39.2) nin0)
    have E_b39_61 : Exa Z T61.heap b39 "com/example/pourcode/pourcode/csv/CsvRecord" := P61_0
    have F_values_b39_61 : Fld Z T61.heap b39 "com/example/pourcode/pourcode/csv/CsvRecord" "values" "[Ljava/lang/String;" (.ref b22) := P61_1
    have F_size_b39_61 : Fld Z T61.heap b39 "com/example/pourcode/pourcode/csv/CsvRecord" "size" "I" (.int (p5 &&& (7 : Int32))) := P61_2
    have pre61 : ∀ t, Steps p.tables e below (T61.setTop (mkF m 177 #[.val (.int p1), .val (.int p2), .val (.int p3), .val (.int p4), .val (.int p5), .val vz_2, .val vz_5, .val vz_9, .val vz_14, .val (.int (1 : Int32)), .val (.ref b22), .val (.int (Int32.ofNat ic)), .val (.int (p5 &&& (7 : Int32))), .unset, .unset, .unset] [(.ref b39)])) t → Steps p.tables e below (s₁.setTop (entryFrame m #[(.int p1), (.int p2), (.int p3), (.int p4), (.int p5)] maxLocals)) t := fun t kt => pre60 t (st61.trans kt)
    have pre78 : ∀ t, Steps p.tables e below (T61.setTop (mkF m 183 #[.val (.int p1), .val (.int p2), .val (.int p3), .val (.int p4), .val (.int p5), .val vz_2, .val vz_5, .val vz_9, .val vz_14, .val (.int (1 : Int32)), .val (.ref b22), .val (.int (Int32.ofNat ic)), .val (.int (p5 &&& (7 : Int32))), .val (.ref b39), .unset, .unset] [(.int (Int32.ofNat ic)), (.ref b39)])) t → Steps p.tables e below (s₁.setTop (entryFrame m #[(.int p1), (.int p2), (.int p3), (.int p4), (.int p5)] maxLocals)) t := by
      intro t kt
      refine pre61 t ?_
      show Steps p.tables e below (T61.setTop (mkF m 177 #[.val (.int p1), .val (.int p2), .val (.int p3), .val (.int p4), .val (.int p5), .val vz_2, .val vz_5, .val vz_9, .val vz_14, .val (.int (1 : Int32)), .val (.ref b22), .val (.int (Int32.ofNat ic)), .val (.int (p5 &&& (7 : Int32))), .unset, .unset, .unset] [(.ref b39)])) _
      refine XS.astore X61.here hx rfl (hb hby at_177) rfl rfl (l' := #[.val (.int p1), .val (.int p2), .val (.int p3), .val (.int p4), .val (.int p5), .val vz_2, .val vz_5, .val vz_9, .val vz_14, .val (.int (1 : Int32)), .val (.ref b22), .val (.int (Int32.ofNat ic)), .val (.int (p5 &&& (7 : Int32))), .val (.ref b39), .unset, .unset]) rfl ?_
      show Steps p.tables e below (T61.setTop (mkF m 179 #[.val (.int p1), .val (.int p2), .val (.int p3), .val (.int p4), .val (.int p5), .val vz_2, .val vz_5, .val vz_9, .val vz_14, .val (.int (1 : Int32)), .val (.ref b22), .val (.int (Int32.ofNat ic)), .val (.int (p5 &&& (7 : Int32))), .val (.ref b39), .unset, .unset] [])) _
      refine XS.aload X61.here hx rfl (hb hby at_179) rfl rfl ?_
      show Steps p.tables e below (T61.setTop (mkF m 181 #[.val (.int p1), .val (.int p2), .val (.int p3), .val (.int p4), .val (.int p5), .val vz_2, .val vz_5, .val vz_9, .val vz_14, .val (.int (1 : Int32)), .val (.ref b22), .val (.int (Int32.ofNat ic)), .val (.int (p5 &&& (7 : Int32))), .val (.ref b39), .unset, .unset] [(.ref b39)])) _
      refine XS.iload X61.here hx rfl (hb hby at_181) rfl ?_
      exact kt
    by_cases hsz : (Int32.ofNat ic) < (p5 &&& (7 : Int32))
    · skip
      obtain ⟨cq79, kq79, q79a, q79b, q79c⟩ := isOf hZ rfl E_b39_61
      obtain ⟨_, _, ⟨T79, L79, k79, n79⟩, -, X79, ⟨Lc79, hQ79, l79, y79, z79⟩, st79⟩ := X61.virtualBack hx (y := (⟨"com/example/pourcode/pourcode/csv/CsvRecord", "get", "(I)Ljava/lang/String;"⟩ : MethodName)) (z := (⟨"com/example/pourcode/pourcode/csv/CsvRecord", "get", "(I)Ljava/lang/String;"⟩ : MethodName)) hown (mvT hZ (hw _ (List.mem_of_getElem? (i := 53) rfl))) (mvT hZ (hw _ (List.mem_of_getElem? (i := 54) rfl))) (notFace_of_selects (args := #[]) (mvT hZ (hw _ (List.mem_of_getElem? (i := 56) rfl)))) (mvT hZ (hw _ (List.mem_of_getElem? (i := 56) rfl))) (mvT hZ (hw _ (List.mem_of_getElem? (i := 55) rfl))) (by decide) (backOf (W := 0) (rm8a l Z a0 hw [] b39 (Int32.ofNat ic) b22 (p5 &&& (7 : Int32)) k22 (1 : Int32) [vz_2] ([vz_2].getD ic Value.null) T61.heap n0 Z61 F_values_b39_61 F_size_b39_61 V_b22_67 ((own_ix1 hic).1) ((own_ix1 hic).2) (hsz) (by rw [own_clamp4 (by omega)]) (own_getref (fun v hv => by simp only [List.mem_cons, List.not_mem_nil, or_false] at hv; subst hv; assumption) ic)) hZ (hw _ (List.mem_of_getElem? (i := 57) rfl)) (hw _ (List.mem_of_getElem? (i := 35) rfl)) (by decide) (by decide)) q79a q79c (g := (mkF m 183 #[.val (.int p1), .val (.int p2), .val (.int p3), .val (.int p4), .val (.int p5), .val vz_2, .val vz_5, .val vz_9, .val vz_14, .val (.int (1 : Int32)), .val (.ref b22), .val (.int (Int32.ofNat ic)), .val (.int (p5 &&& (7 : Int32))), .val (.ref b39), .unset, .unset] [(.int (Int32.ofNat ic)), (.ref b39)])) rfl (by rw [hml]; rfl) (Steps.refl _) (argsL := [(.int (Int32.ofNat ic))]) (rest := []) (lenOf pd_8 rfl) rfl (by show 2 * 0 + _ ≤ _; exact Nat.le_of_eq rfl) (hb hby at_183) (fun _ _ => ⟨rfl, rfl, (by decide : 12 + 0 ≤ _), (by decide : 34 + 0 ≤ _)⟩)
      dsimp only [Pt.U, Pt.locs, Pt.cells, Pt.slots] at X79 l79 y79 z79 st79 hQ79
      subst l79 y79 z79
      obtain ⟨rfl, N79q, e79⟩ := hQ79
      have N79 := Fr.app N61 N79q
      have pre79 : ∀ t, Steps p.tables e below (T79.setTop (mkF m 186 #[.val (.int p1), .val (.int p2), .val (.int p3), .val (.int p4), .val (.int p5), .val vz_2, .val vz_5, .val vz_9, .val vz_14, .val (.int (1 : Int32)), .val (.ref b22), .val (.int (Int32.ofNat ic)), .val (.int (p5 &&& (7 : Int32))), .val (.ref b39), .unset, .unset] [([vz_2].getD ic Value.null)])) t → Steps p.tables e below (s₁.setTop (entryFrame m #[(.int p1), (.int p2), (.int p3), (.int p4), (.int p5)] maxLocals)) t := fun t kt => pre78 t (st79.trans kt)
      have hgz : ([vz_2].getD ic Value.null).isRef = true := own_getref (fun v hv => by simp only [List.mem_cons, List.not_mem_nil, or_false] at hv; subst hv; assumption) ic
      have pre80 : ∀ t, Steps p.tables e below (T79.setTop (mkF m 190 #[.val (.int p1), .val (.int p2), .val (.int p3), .val (.int p4), .val (.int p5), .val vz_2, .val vz_5, .val vz_9, .val vz_14, .val (.int (1 : Int32)), .val (.ref b22), .val (.int (Int32.ofNat ic)), .val (.int (p5 &&& (7 : Int32))), .val (.ref b39), .val ([vz_2].getD ic Value.null), .unset] [(.int (Int32.ofNat ic))])) t → Steps p.tables e below (s₁.setTop (entryFrame m #[(.int p1), (.int p2), (.int p3), (.int p4), (.int p5)] maxLocals)) t := by
        intro t kt
        refine pre79 t ?_
        show Steps p.tables e below (T79.setTop (mkF m 186 #[.val (.int p1), .val (.int p2), .val (.int p3), .val (.int p4), .val (.int p5), .val vz_2, .val vz_5, .val vz_9, .val vz_14, .val (.int (1 : Int32)), .val (.ref b22), .val (.int (Int32.ofNat ic)), .val (.int (p5 &&& (7 : Int32))), .val (.ref b39), .unset, .unset] [([vz_2].getD ic Value.null)])) _
        refine XS.astore X79.here hx rfl (hb hby at_186) rfl hgz (l' := #[.val (.int p1), .val (.int p2), .val (.int p3), .val (.int p4), .val (.int p5), .val vz_2, .val vz_5, .val vz_9, .val vz_14, .val (.int (1 : Int32)), .val (.ref b22), .val (.int (Int32.ofNat ic)), .val (.int (p5 &&& (7 : Int32))), .val (.ref b39), .val ([vz_2].getD ic Value.null), .unset]) (by rcases ref_cases hgz with q | ⟨_, q⟩ <;> rw [q] <;> rfl) ?_
        show Steps p.tables e below (T79.setTop (mkF m 188 #[.val (.int p1), .val (.int p2), .val (.int p3), .val (.int p4), .val (.int p5), .val vz_2, .val vz_5, .val vz_9, .val vz_14, .val (.int (1 : Int32)), .val (.ref b22), .val (.int (Int32.ofNat ic)), .val (.int (p5 &&& (7 : Int32))), .val (.ref b39), .val ([vz_2].getD ic Value.null), .unset] [])) _
        refine XS.iload X79.here hx rfl (hb hby at_188) rfl ?_
        exact kt
      obtain ⟨v81_0, hv81_0, pre81⟩ : ∃ (v81_0 : Value), v81_0 = (if (Int32.ofNat ic) = (0 : Int32) then vz_2 else (if (Int32.ofNat ic) = (1 : Int32) then vz_5 else (if (Int32.ofNat ic) = (2 : Int32) then vz_9 else vz_14))) ∧ ∀ t, Steps p.tables e below (T79.setTop (mkF m 230 #[.val (.int p1), .val (.int p2), .val (.int p3), .val (.int p4), .val (.int p5), .val vz_2, .val vz_5, .val vz_9, .val vz_14, .val (.int (1 : Int32)), .val (.ref b22), .val (.int (Int32.ofNat ic)), .val (.int (p5 &&& (7 : Int32))), .val (.ref b39), .val ([vz_2].getD ic Value.null), .val v81_0] [])) t → Steps p.tables e below (s₁.setTop (entryFrame m #[(.int p1), (.int p2), (.int p3), (.int p4), (.int p5)] maxLocals)) t := by
        refine ⟨_, rfl, ?_⟩
        intro t kt
        refine pre80 t ?_
        show Steps p.tables e below (T79.setTop (mkF m 190 #[.val (.int p1), .val (.int p2), .val (.int p3), .val (.int p4), .val (.int p5), .val vz_2, .val vz_5, .val vz_9, .val vz_14, .val (.int (1 : Int32)), .val (.ref b22), .val (.int (Int32.ofNat ic)), .val (.int (p5 &&& (7 : Int32))), .val (.ref b39), .val ([vz_2].getD ic Value.null), .unset] [(.int (Int32.ofNat ic))])) _
        by_cases hc190 : (Int32.ofNat ic) = (0 : Int32)
        · (try simp only [if_pos hc190] at kt)
          refine XS.ifNo X79.here hx rfl (hb hby at_190) rfl ((if0 _ _).trans (teq hc190).2) ?_
          show Steps p.tables e below (T79.setTop (mkF m 193 #[.val (.int p1), .val (.int p2), .val (.int p3), .val (.int p4), .val (.int p5), .val vz_2, .val vz_5, .val vz_9, .val vz_14, .val (.int (1 : Int32)), .val (.ref b22), .val (.int (Int32.ofNat ic)), .val (.int (p5 &&& (7 : Int32))), .val (.ref b39), .val ([vz_2].getD ic Value.null), .unset] [])) _
          refine XS.aload X79.here hx rfl (hb hby at_193) rfl R2_0 ?_
          show Steps p.tables e below (T79.setTop (mkF m 195 #[.val (.int p1), .val (.int p2), .val (.int p3), .val (.int p4), .val (.int p5), .val vz_2, .val vz_5, .val vz_9, .val vz_14, .val (.int (1 : Int32)), .val (.ref b22), .val (.int (Int32.ofNat ic)), .val (.int (p5 &&& (7 : Int32))), .val (.ref b39), .val ([vz_2].getD ic Value.null), .unset] [vz_2])) _
          refine XS.astore X79.here hx rfl (hb hby at_195) rfl R2_0 (l' := #[.val (.int p1), .val (.int p2), .val (.int p3), .val (.int p4), .val (.int p5), .val vz_2, .val vz_5, .val vz_9, .val vz_14, .val (.int (1 : Int32)), .val (.ref b22), .val (.int (Int32.ofNat ic)), .val (.int (p5 &&& (7 : Int32))), .val (.ref b39), .val ([vz_2].getD ic Value.null), .val vz_2]) (by rcases ref_cases R2_0 with q | ⟨_, q⟩ <;> rw [q] <;> rfl) ?_
          show Steps p.tables e below (T79.setTop (mkF m 197 #[.val (.int p1), .val (.int p2), .val (.int p3), .val (.int p4), .val (.int p5), .val vz_2, .val vz_5, .val vz_9, .val vz_14, .val (.int (1 : Int32)), .val (.ref b22), .val (.int (Int32.ofNat ic)), .val (.int (p5 &&& (7 : Int32))), .val (.ref b39), .val ([vz_2].getD ic Value.null), .val vz_2] [])) _
          refine XS.goto X79.here hx rfl (pc0 := 197) (pc' := 230) rfl (hb hby at_197) (by decide) (by decide) ?_
          exact kt
        · (try simp only [if_neg hc190] at kt)
          refine XS.ifYes X79.here hx rfl (pc0 := 190) (pc' := 200) rfl (hb hby at_190) rfl ((if0 _ _).trans (feq hc190).2) (by decide) (by decide) ?_
          show Steps p.tables e below (T79.setTop (mkF m 200 #[.val (.int p1), .val (.int p2), .val (.int p3), .val (.int p4), .val (.int p5), .val vz_2, .val vz_5, .val vz_9, .val vz_14, .val (.int (1 : Int32)), .val (.ref b22), .val (.int (Int32.ofNat ic)), .val (.int (p5 &&& (7 : Int32))), .val (.ref b39), .val ([vz_2].getD ic Value.null), .unset] [])) _
          refine XS.iload X79.here hx rfl (hb hby at_200) rfl ?_
          show Steps p.tables e below (T79.setTop (mkF m 202 #[.val (.int p1), .val (.int p2), .val (.int p3), .val (.int p4), .val (.int p5), .val vz_2, .val vz_5, .val vz_9, .val vz_14, .val (.int (1 : Int32)), .val (.ref b22), .val (.int (Int32.ofNat ic)), .val (.int (p5 &&& (7 : Int32))), .val (.ref b39), .val ([vz_2].getD ic Value.null), .unset] [(.int (Int32.ofNat ic))])) _
          refine XS.iconst X79.here hx rfl (hb hby at_202) ?_
          show Steps p.tables e below (T79.setTop (mkF m 203 #[.val (.int p1), .val (.int p2), .val (.int p3), .val (.int p4), .val (.int p5), .val vz_2, .val vz_5, .val vz_9, .val vz_14, .val (.int (1 : Int32)), .val (.ref b22), .val (.int (Int32.ofNat ic)), .val (.int (p5 &&& (7 : Int32))), .val (.ref b39), .val ([vz_2].getD ic Value.null), .unset] [(.int (1 : Int32)), (.int (Int32.ofNat ic))])) _
          by_cases hc203 : (Int32.ofNat ic) = (1 : Int32)
          · (try simp only [if_pos hc203] at kt)
            refine XS.icmpNo X79.here hx rfl (hb hby at_203) rfl (teq hc203).2 ?_
            show Steps p.tables e below (T79.setTop (mkF m 206 #[.val (.int p1), .val (.int p2), .val (.int p3), .val (.int p4), .val (.int p5), .val vz_2, .val vz_5, .val vz_9, .val vz_14, .val (.int (1 : Int32)), .val (.ref b22), .val (.int (Int32.ofNat ic)), .val (.int (p5 &&& (7 : Int32))), .val (.ref b39), .val ([vz_2].getD ic Value.null), .unset] [])) _
            refine XS.aload X79.here hx rfl (hb hby at_206) rfl R5_0 ?_
            show Steps p.tables e below (T79.setTop (mkF m 208 #[.val (.int p1), .val (.int p2), .val (.int p3), .val (.int p4), .val (.int p5), .val vz_2, .val vz_5, .val vz_9, .val vz_14, .val (.int (1 : Int32)), .val (.ref b22), .val (.int (Int32.ofNat ic)), .val (.int (p5 &&& (7 : Int32))), .val (.ref b39), .val ([vz_2].getD ic Value.null), .unset] [vz_5])) _
            refine XS.astore X79.here hx rfl (hb hby at_208) rfl R5_0 (l' := #[.val (.int p1), .val (.int p2), .val (.int p3), .val (.int p4), .val (.int p5), .val vz_2, .val vz_5, .val vz_9, .val vz_14, .val (.int (1 : Int32)), .val (.ref b22), .val (.int (Int32.ofNat ic)), .val (.int (p5 &&& (7 : Int32))), .val (.ref b39), .val ([vz_2].getD ic Value.null), .val vz_5]) (by rcases ref_cases R5_0 with q | ⟨_, q⟩ <;> rw [q] <;> rfl) ?_
            show Steps p.tables e below (T79.setTop (mkF m 210 #[.val (.int p1), .val (.int p2), .val (.int p3), .val (.int p4), .val (.int p5), .val vz_2, .val vz_5, .val vz_9, .val vz_14, .val (.int (1 : Int32)), .val (.ref b22), .val (.int (Int32.ofNat ic)), .val (.int (p5 &&& (7 : Int32))), .val (.ref b39), .val ([vz_2].getD ic Value.null), .val vz_5] [])) _
            refine XS.goto X79.here hx rfl (pc0 := 210) (pc' := 230) rfl (hb hby at_210) (by decide) (by decide) ?_
            exact kt
          · (try simp only [if_neg hc203] at kt)
            refine XS.icmpYes X79.here hx rfl (pc0 := 203) (pc' := 213) rfl (hb hby at_203) rfl (feq hc203).2 (by decide) (by decide) ?_
            show Steps p.tables e below (T79.setTop (mkF m 213 #[.val (.int p1), .val (.int p2), .val (.int p3), .val (.int p4), .val (.int p5), .val vz_2, .val vz_5, .val vz_9, .val vz_14, .val (.int (1 : Int32)), .val (.ref b22), .val (.int (Int32.ofNat ic)), .val (.int (p5 &&& (7 : Int32))), .val (.ref b39), .val ([vz_2].getD ic Value.null), .unset] [])) _
            refine XS.iload X79.here hx rfl (hb hby at_213) rfl ?_
            show Steps p.tables e below (T79.setTop (mkF m 215 #[.val (.int p1), .val (.int p2), .val (.int p3), .val (.int p4), .val (.int p5), .val vz_2, .val vz_5, .val vz_9, .val vz_14, .val (.int (1 : Int32)), .val (.ref b22), .val (.int (Int32.ofNat ic)), .val (.int (p5 &&& (7 : Int32))), .val (.ref b39), .val ([vz_2].getD ic Value.null), .unset] [(.int (Int32.ofNat ic))])) _
            refine XS.iconst X79.here hx rfl (hb hby at_215) ?_
            show Steps p.tables e below (T79.setTop (mkF m 216 #[.val (.int p1), .val (.int p2), .val (.int p3), .val (.int p4), .val (.int p5), .val vz_2, .val vz_5, .val vz_9, .val vz_14, .val (.int (1 : Int32)), .val (.ref b22), .val (.int (Int32.ofNat ic)), .val (.int (p5 &&& (7 : Int32))), .val (.ref b39), .val ([vz_2].getD ic Value.null), .unset] [(.int (2 : Int32)), (.int (Int32.ofNat ic))])) _
            by_cases hc216 : (Int32.ofNat ic) = (2 : Int32)
            · (try simp only [if_pos hc216] at kt)
              refine XS.icmpNo X79.here hx rfl (hb hby at_216) rfl (teq hc216).2 ?_
              show Steps p.tables e below (T79.setTop (mkF m 219 #[.val (.int p1), .val (.int p2), .val (.int p3), .val (.int p4), .val (.int p5), .val vz_2, .val vz_5, .val vz_9, .val vz_14, .val (.int (1 : Int32)), .val (.ref b22), .val (.int (Int32.ofNat ic)), .val (.int (p5 &&& (7 : Int32))), .val (.ref b39), .val ([vz_2].getD ic Value.null), .unset] [])) _
              refine XS.aload X79.here hx rfl (hb hby at_219) rfl R9_0 ?_
              show Steps p.tables e below (T79.setTop (mkF m 221 #[.val (.int p1), .val (.int p2), .val (.int p3), .val (.int p4), .val (.int p5), .val vz_2, .val vz_5, .val vz_9, .val vz_14, .val (.int (1 : Int32)), .val (.ref b22), .val (.int (Int32.ofNat ic)), .val (.int (p5 &&& (7 : Int32))), .val (.ref b39), .val ([vz_2].getD ic Value.null), .unset] [vz_9])) _
              refine XS.astore X79.here hx rfl (hb hby at_221) rfl R9_0 (l' := #[.val (.int p1), .val (.int p2), .val (.int p3), .val (.int p4), .val (.int p5), .val vz_2, .val vz_5, .val vz_9, .val vz_14, .val (.int (1 : Int32)), .val (.ref b22), .val (.int (Int32.ofNat ic)), .val (.int (p5 &&& (7 : Int32))), .val (.ref b39), .val ([vz_2].getD ic Value.null), .val vz_9]) (by rcases ref_cases R9_0 with q | ⟨_, q⟩ <;> rw [q] <;> rfl) ?_
              show Steps p.tables e below (T79.setTop (mkF m 223 #[.val (.int p1), .val (.int p2), .val (.int p3), .val (.int p4), .val (.int p5), .val vz_2, .val vz_5, .val vz_9, .val vz_14, .val (.int (1 : Int32)), .val (.ref b22), .val (.int (Int32.ofNat ic)), .val (.int (p5 &&& (7 : Int32))), .val (.ref b39), .val ([vz_2].getD ic Value.null), .val vz_9] [])) _
              refine XS.goto X79.here hx rfl (pc0 := 223) (pc' := 230) rfl (hb hby at_223) (by decide) (by decide) ?_
              exact kt
            · (try simp only [if_neg hc216] at kt)
              refine XS.icmpYes X79.here hx rfl (pc0 := 216) (pc' := 226) rfl (hb hby at_216) rfl (feq hc216).2 (by decide) (by decide) ?_
              show Steps p.tables e below (T79.setTop (mkF m 226 #[.val (.int p1), .val (.int p2), .val (.int p3), .val (.int p4), .val (.int p5), .val vz_2, .val vz_5, .val vz_9, .val vz_14, .val (.int (1 : Int32)), .val (.ref b22), .val (.int (Int32.ofNat ic)), .val (.int (p5 &&& (7 : Int32))), .val (.ref b39), .val ([vz_2].getD ic Value.null), .unset] [])) _
              refine XS.aload X79.here hx rfl (hb hby at_226) rfl R14_0 ?_
              show Steps p.tables e below (T79.setTop (mkF m 228 #[.val (.int p1), .val (.int p2), .val (.int p3), .val (.int p4), .val (.int p5), .val vz_2, .val vz_5, .val vz_9, .val vz_14, .val (.int (1 : Int32)), .val (.ref b22), .val (.int (Int32.ofNat ic)), .val (.int (p5 &&& (7 : Int32))), .val (.ref b39), .val ([vz_2].getD ic Value.null), .unset] [vz_14])) _
              refine XS.astore X79.here hx rfl (hb hby at_228) rfl R14_0 (l' := #[.val (.int p1), .val (.int p2), .val (.int p3), .val (.int p4), .val (.int p5), .val vz_2, .val vz_5, .val vz_9, .val vz_14, .val (.int (1 : Int32)), .val (.ref b22), .val (.int (Int32.ofNat ic)), .val (.int (p5 &&& (7 : Int32))), .val (.ref b39), .val ([vz_2].getD ic Value.null), .val vz_14]) (by rcases ref_cases R14_0 with q | ⟨_, q⟩ <;> rw [q] <;> rfl) ?_
              exact kt
      have hr_v81_0 : v81_0.isRef = true := by rw [hv81_0]; (repeat' split) <;> assumption
      have pre82 : ∀ t, Steps p.tables e below (T79.setTop (mkF m 241 #[.val (.int p1), .val (.int p2), .val (.int p3), .val (.int p4), .val (.int p5), .val vz_2, .val vz_5, .val vz_9, .val vz_14, .val (.int (1 : Int32)), .val (.ref b22), .val (.int (Int32.ofNat ic)), .val (.int (p5 &&& (7 : Int32))), .val (.ref b39), .val ([vz_2].getD ic Value.null), .val v81_0] [v81_0, ([vz_2].getD ic Value.null)])) t → Steps p.tables e below (s₁.setTop (entryFrame m #[(.int p1), (.int p2), (.int p3), (.int p4), (.int p5)] maxLocals)) t := by
        intro t kt
        refine pre81 t ?_
        show Steps p.tables e below (T79.setTop (mkF m 230 #[.val (.int p1), .val (.int p2), .val (.int p3), .val (.int p4), .val (.int p5), .val vz_2, .val vz_5, .val vz_9, .val vz_14, .val (.int (1 : Int32)), .val (.ref b22), .val (.int (Int32.ofNat ic)), .val (.int (p5 &&& (7 : Int32))), .val (.ref b39), .val ([vz_2].getD ic Value.null), .val v81_0] [])) _
        refine XS.iload X79.here hx rfl (hb hby at_230) rfl ?_
        show Steps p.tables e below (T79.setTop (mkF m 232 #[.val (.int p1), .val (.int p2), .val (.int p3), .val (.int p4), .val (.int p5), .val vz_2, .val vz_5, .val vz_9, .val vz_14, .val (.int (1 : Int32)), .val (.ref b22), .val (.int (Int32.ofNat ic)), .val (.int (p5 &&& (7 : Int32))), .val (.ref b39), .val ([vz_2].getD ic Value.null), .val v81_0] [(.int (Int32.ofNat ic))])) _
        refine XS.iload X79.here hx rfl (hb hby at_232) rfl ?_
        show Steps p.tables e below (T79.setTop (mkF m 234 #[.val (.int p1), .val (.int p2), .val (.int p3), .val (.int p4), .val (.int p5), .val vz_2, .val vz_5, .val vz_9, .val vz_14, .val (.int (1 : Int32)), .val (.ref b22), .val (.int (Int32.ofNat ic)), .val (.int (p5 &&& (7 : Int32))), .val (.ref b39), .val ([vz_2].getD ic Value.null), .val v81_0] [(.int (p5 &&& (7 : Int32))), (.int (Int32.ofNat ic))])) _
        refine XS.icmpNo X79.here hx rfl (hb hby at_234) rfl (tlt hsz).2.1 ?_
        show Steps p.tables e below (T79.setTop (mkF m 237 #[.val (.int p1), .val (.int p2), .val (.int p3), .val (.int p4), .val (.int p5), .val vz_2, .val vz_5, .val vz_9, .val vz_14, .val (.int (1 : Int32)), .val (.ref b22), .val (.int (Int32.ofNat ic)), .val (.int (p5 &&& (7 : Int32))), .val (.ref b39), .val ([vz_2].getD ic Value.null), .val v81_0] [])) _
        refine XS.aload X79.here hx rfl (hb hby at_237) rfl hgz ?_
        show Steps p.tables e below (T79.setTop (mkF m 239 #[.val (.int p1), .val (.int p2), .val (.int p3), .val (.int p4), .val (.int p5), .val vz_2, .val vz_5, .val vz_9, .val vz_14, .val (.int (1 : Int32)), .val (.ref b22), .val (.int (Int32.ofNat ic)), .val (.int (p5 &&& (7 : Int32))), .val (.ref b39), .val ([vz_2].getD ic Value.null), .val v81_0] [([vz_2].getD ic Value.null)])) _
        refine XS.aload X79.here hx rfl (hb hby at_239) rfl hr_v81_0 ?_
        exact kt
      have pre83 : ∀ t, Steps p.tables e below (T79.setTop (mkF m 244 #[.val (.int p1), .val (.int p2), .val (.int p3), .val (.int p4), .val (.int p5), .val vz_2, .val vz_5, .val vz_9, .val vz_14, .val (.int (1 : Int32)), .val (.ref b22), .val (.int (Int32.ofNat ic)), .val (.int (p5 &&& (7 : Int32))), .val (.ref b39), .val ([vz_2].getD ic Value.null), .val v81_0] [])) t → Steps p.tables e below (s₁.setTop (entryFrame m #[(.int p1), (.int p2), (.int p3), (.int p4), (.int p5)] maxLocals)) t := fun t kt => pre82 t (by
        show Steps p.tables e below (T79.setTop (mkF m 241 #[.val (.int p1), .val (.int p2), .val (.int p3), .val (.int p4), .val (.int p5), .val vz_2, .val vz_5, .val vz_9, .val vz_14, .val (.int (1 : Int32)), .val (.ref b22), .val (.int (Int32.ofNat ic)), .val (.int (p5 &&& (7 : Int32))), .val (.ref b39), .val ([vz_2].getD ic Value.null), .val v81_0] [v81_0, ([vz_2].getD ic Value.null)])) _
        refine Jvm.RoadKit.acmp (g := (mkF m 241 #[.val (.int p1), .val (.int p2), .val (.int p3), .val (.int p4), .val (.int p5), .val vz_2, .val vz_5, .val vz_9, .val vz_14, .val (.int (1 : Int32)), .val (.ref b22), .val (.int (Int32.ofNat ic)), .val (.int (p5 &&& (7 : Int32))), .val (.ref b39), .val ([vz_2].getD ic Value.null), .val v81_0] [v81_0, ([vz_2].getD ic Value.null)])) X79 hx rfl hgz hr_v81_0 (pc0 := 241) (pc' := 244) (same := true) rfl (hb hby at_241) rfl (decide_eq_true ((own_kept1 hic).trans hv81_0.symm)) (by decide) (by decide) ?_
        exact kt)
      have pre84 : ∀ t, Steps p.tables e below (T79.setTop (mkF m 249 #[.val (.int p1), .val (.int p2), .val (.int p3), .val (.int p4), .val (.int p5), .val vz_2, .val vz_5, .val vz_9, .val vz_14, .val (.int (1 : Int32)), .val (.ref b22), .val (.int (Int32.ofNat ic)), .val (.int (p5 &&& (7 : Int32))), .val (.ref b39), .val ([vz_2].getD ic Value.null), .val v81_0] [(.int (1 : Int32))])) t → Steps p.tables e below (s₁.setTop (entryFrame m #[(.int p1), (.int p2), (.int p3), (.int p4), (.int p5)] maxLocals)) t := by
        intro t kt
        refine pre83 t ?_
        show Steps p.tables e below (T79.setTop (mkF m 244 #[.val (.int p1), .val (.int p2), .val (.int p3), .val (.int p4), .val (.int p5), .val vz_2, .val vz_5, .val vz_9, .val vz_14, .val (.int (1 : Int32)), .val (.ref b22), .val (.int (Int32.ofNat ic)), .val (.int (p5 &&& (7 : Int32))), .val (.ref b39), .val ([vz_2].getD ic Value.null), .val v81_0] [])) _
        refine XS.iconst X79.here hx rfl (hb hby at_244) ?_
        show Steps p.tables e below (T79.setTop (mkF m 245 #[.val (.int p1), .val (.int p2), .val (.int p3), .val (.int p4), .val (.int p5), .val vz_2, .val vz_5, .val vz_9, .val vz_14, .val (.int (1 : Int32)), .val (.ref b22), .val (.int (Int32.ofNat ic)), .val (.int (p5 &&& (7 : Int32))), .val (.ref b39), .val ([vz_2].getD ic Value.null), .val v81_0] [(.int (1 : Int32))])) _
        refine XS.goto X79.here hx rfl (pc0 := 245) (pc' := 249) rfl (hb hby at_245) (by decide) (by decide) ?_
        exact kt
      obtain ⟨fs, hr, hrun, hended, hEnd⟩ := X79.leaveW (s := s) (vm₁ := T47.vm) hS47 (by rw [e79]; exact mo61_0) (v := some (.int (1 : Int32))) (fun h => by rw [Bd.returns] at h; cases h)
      refine ⟨_, _, pre84 _ ?_, hrun, hended, _, _, rfl, ?_, hEnd.1, hEnd.2.1, hEnd.2.2.1, hEnd.2.2.2.mono (by decide) (by decide)⟩
      · show Steps p.tables e below (T79.setTop (mkF m 249 #[.val (.int p1), .val (.int p2), .val (.int p3), .val (.int p4), .val (.int p5), .val vz_2, .val vz_5, .val vz_9, .val vz_14, .val (.int (1 : Int32)), .val (.ref b22), .val (.int (Int32.ofNat ic)), .val (.int (p5 &&& (7 : Int32))), .val (.ref b39), .val ([vz_2].getD ic Value.null), .val v81_0] [(.int (1 : Int32))])) _
        exact retN X79 hx (t := .boolean) Bd.returns (by simp) (hb hby at_249) hr
      · show Q0 n0 _ T79.heap _
        rw [e79]
        exact ⟨rfl, N79⟩
    · skip
      obtain ⟨cq85, kq85, q85a, q85b, q85c⟩ := isOf hZ rfl E_b39_61
      obtain ⟨_, _, ⟨T85, L85, k85, n85⟩, -, X85, hSq85, hgq85, ⟨Lc85, hQ85, l85, y85, z85, CQ85⟩, st85⟩ := X61.virtualBackS (s := s.setVm T47.vm) hx (y := (⟨"com/example/pourcode/pourcode/csv/CsvRecord", "get", "(I)Ljava/lang/String;"⟩ : MethodName)) (z := (⟨"com/example/pourcode/pourcode/csv/CsvRecord", "get", "(I)Ljava/lang/String;"⟩ : MethodName)) hown (mvT hZ (hw _ (List.mem_of_getElem? (i := 53) rfl))) (mvT hZ (hw _ (List.mem_of_getElem? (i := 54) rfl))) (notFace_of_selects (args := #[]) (mvT hZ (hw _ (List.mem_of_getElem? (i := 56) rfl)))) (mvT hZ (hw _ (List.mem_of_getElem? (i := 56) rfl))) (mvT hZ (hw _ (List.mem_of_getElem? (i := 55) rfl))) (by decide) (backOfSH (s := s) (vm0 := T47.vm) (W := 0) (rm8b l Z a0 hw [] b39 (Int32.ofNat ic) b22 (p5 &&& (7 : Int32)) k22 (1 : Int32) [vz_2] T61.heap n0 Z61 F_values_b39_61 F_size_b39_61 V_b22_67 ((own_ix1 hic).1) ((own_ix1 hic).2) (hsz)) hZ (hw _ (List.mem_of_getElem? (i := 57) rfl)) (hw _ (List.mem_of_getElem? (i := 35) rfl)) (by decide) (by decide) hEL CR61.1) q85a q85c (g := (mkF m 183 #[.val (.int p1), .val (.int p2), .val (.int p3), .val (.int p4), .val (.int p5), .val vz_2, .val vz_5, .val vz_9, .val vz_14, .val (.int (1 : Int32)), .val (.ref b22), .val (.int (Int32.ofNat ic)), .val (.int (p5 &&& (7 : Int32))), .val (.ref b39), .unset, .unset] [(.int (Int32.ofNat ic)), (.ref b39)])) rfl (by rw [hml]; rfl) (Steps.refl _) (argsL := [(.int (Int32.ofNat ic))]) (rest := []) (lenOf pd_8 rfl) rfl (by show 2 * 0 + _ ≤ _; exact Nat.le_of_eq rfl) (hb hby at_183) (fun _ _ => ⟨rfl, rfl, (by decide : 12 + 2 ≤ _), (by decide : 34 + 4 ≤ _)⟩)
      dsimp only [Pt.U, Pt.locs, Pt.cells, Pt.slots] at X85 l85 y85 z85 st85 hQ85
      subst l85 y85 z85
      have hS85 := foldS hS47 mo61_0 hSq85 hgq85
      have hown := show T85.vm.findClass _ = some m.cls from (by rw [hSq85.1.alike.findClass]; exact hown)
      have hZ := State.Warmed39.trans (t := s.setVm T47.vm) hZ hSq85.1
      have CR85 := CR61.trans CQ85
      obtain ⟨az_85, tz_85, kz_85, rfl, N85q, KC85, P85_0, P85_1, P85_2⟩ := hQ85
      have N85 := Fr.app N61 N85q
      have Z85 : n0 ≤ T85.heap.size := Nat.le_trans Z61 KC85.1
      have mo85_0 := Nat.le_trans mo61_0 KC85.1
      have K85 : Keep h0 T85.heap [] := K61.trans KC85 all0
      have SCS_86 := own_stak SCS_62 KC85 ns0
      have SS_vz_2_2_87 := own_Skeep SS_vz_2_2_63 KC85
      have SS_vz_5_5_88 := own_Skeep SS_vz_5_5_64 KC85
      have SS_vz_9_9_89 := own_Skeep SS_vz_9_9_65 KC85
      have SS_vz_14_14_90 := own_Skeep SS_vz_14_14_66 KC85
      have V_b22_91 := V_b22_67.keep KC85 nin0
      have E_b39_61_92 := E_b39_61.keep KC85
      have A47_93 := A47_74.keep KC85
      have C47_94 := C47_75.keep KC85 nin0
      have F47_95 := F47_76.keep KC85 nin0
      have V47_96 := V47_77.keep KC85 nin0
      have F_values_b39_61_97 := F_values_b39_61.keep KC85 nin0
      have F_size_b39_61_98 := F_size_b39_61.keep KC85 nin0
      have E_az_85_85 : Exa Z T85.heap az_85 "java/lang/String" := P85_0
      have F_value_az_85_85 : Fld Z T85.heap az_85 "java/lang/String" "value" "[B" (.ref tz_85) := P85_1
      have V_tz_85_85 : Arv Z T85.heap tz_85 kz_85 .byte (0 : Int32) ((own_cs66.map fun c => c.toInt8.toInt32).map Value.int) (.int (0 : Int32)) := P85_2
      have pre85 : ∀ t, Steps p.tables e below (T85.setTop (mkF m 186 #[.val (.int p1), .val (.int p2), .val (.int p3), .val (.int p4), .val (.int p5), .val vz_2, .val vz_5, .val vz_9, .val vz_14, .val (.int (1 : Int32)), .val (.ref b22), .val (.int (Int32.ofNat ic)), .val (.int (p5 &&& (7 : Int32))), .val (.ref b39), .unset, .unset] [(.ref az_85)])) t → Steps p.tables e below (s₁.setTop (entryFrame m #[(.int p1), (.int p2), (.int p3), (.int p4), (.int p5)] maxLocals)) t := fun t kt => pre78 t (st85.trans kt)
      have pre99 : ∀ t, Steps p.tables e below (T85.setTop (mkF m 190 #[.val (.int p1), .val (.int p2), .val (.int p3), .val (.int p4), .val (.int p5), .val vz_2, .val vz_5, .val vz_9, .val vz_14, .val (.int (1 : Int32)), .val (.ref b22), .val (.int (Int32.ofNat ic)), .val (.int (p5 &&& (7 : Int32))), .val (.ref b39), .val (.ref az_85), .unset] [(.int (Int32.ofNat ic))])) t → Steps p.tables e below (s₁.setTop (entryFrame m #[(.int p1), (.int p2), (.int p3), (.int p4), (.int p5)] maxLocals)) t := by
        intro t kt
        refine pre85 t ?_
        show Steps p.tables e below (T85.setTop (mkF m 186 #[.val (.int p1), .val (.int p2), .val (.int p3), .val (.int p4), .val (.int p5), .val vz_2, .val vz_5, .val vz_9, .val vz_14, .val (.int (1 : Int32)), .val (.ref b22), .val (.int (Int32.ofNat ic)), .val (.int (p5 &&& (7 : Int32))), .val (.ref b39), .unset, .unset] [(.ref az_85)])) _
        refine XS.astore X85.here hx rfl (hb hby at_186) rfl rfl (l' := #[.val (.int p1), .val (.int p2), .val (.int p3), .val (.int p4), .val (.int p5), .val vz_2, .val vz_5, .val vz_9, .val vz_14, .val (.int (1 : Int32)), .val (.ref b22), .val (.int (Int32.ofNat ic)), .val (.int (p5 &&& (7 : Int32))), .val (.ref b39), .val (.ref az_85), .unset]) rfl ?_
        show Steps p.tables e below (T85.setTop (mkF m 188 #[.val (.int p1), .val (.int p2), .val (.int p3), .val (.int p4), .val (.int p5), .val vz_2, .val vz_5, .val vz_9, .val vz_14, .val (.int (1 : Int32)), .val (.ref b22), .val (.int (Int32.ofNat ic)), .val (.int (p5 &&& (7 : Int32))), .val (.ref b39), .val (.ref az_85), .unset] [])) _
        refine XS.iload X85.here hx rfl (hb hby at_188) rfl ?_
        exact kt
      obtain ⟨v100_0, hv100_0, pre100⟩ : ∃ (v100_0 : Value), v100_0 = (if (Int32.ofNat ic) = (0 : Int32) then vz_2 else (if (Int32.ofNat ic) = (1 : Int32) then vz_5 else (if (Int32.ofNat ic) = (2 : Int32) then vz_9 else vz_14))) ∧ ∀ t, Steps p.tables e below (T85.setTop (mkF m 230 #[.val (.int p1), .val (.int p2), .val (.int p3), .val (.int p4), .val (.int p5), .val vz_2, .val vz_5, .val vz_9, .val vz_14, .val (.int (1 : Int32)), .val (.ref b22), .val (.int (Int32.ofNat ic)), .val (.int (p5 &&& (7 : Int32))), .val (.ref b39), .val (.ref az_85), .val v100_0] [])) t → Steps p.tables e below (s₁.setTop (entryFrame m #[(.int p1), (.int p2), (.int p3), (.int p4), (.int p5)] maxLocals)) t := by
        refine ⟨_, rfl, ?_⟩
        intro t kt
        refine pre99 t ?_
        show Steps p.tables e below (T85.setTop (mkF m 190 #[.val (.int p1), .val (.int p2), .val (.int p3), .val (.int p4), .val (.int p5), .val vz_2, .val vz_5, .val vz_9, .val vz_14, .val (.int (1 : Int32)), .val (.ref b22), .val (.int (Int32.ofNat ic)), .val (.int (p5 &&& (7 : Int32))), .val (.ref b39), .val (.ref az_85), .unset] [(.int (Int32.ofNat ic))])) _
        by_cases hc190 : (Int32.ofNat ic) = (0 : Int32)
        · (try simp only [if_pos hc190] at kt)
          refine XS.ifNo X85.here hx rfl (hb hby at_190) rfl ((if0 _ _).trans (teq hc190).2) ?_
          show Steps p.tables e below (T85.setTop (mkF m 193 #[.val (.int p1), .val (.int p2), .val (.int p3), .val (.int p4), .val (.int p5), .val vz_2, .val vz_5, .val vz_9, .val vz_14, .val (.int (1 : Int32)), .val (.ref b22), .val (.int (Int32.ofNat ic)), .val (.int (p5 &&& (7 : Int32))), .val (.ref b39), .val (.ref az_85), .unset] [])) _
          refine XS.aload X85.here hx rfl (hb hby at_193) rfl R2_0 ?_
          show Steps p.tables e below (T85.setTop (mkF m 195 #[.val (.int p1), .val (.int p2), .val (.int p3), .val (.int p4), .val (.int p5), .val vz_2, .val vz_5, .val vz_9, .val vz_14, .val (.int (1 : Int32)), .val (.ref b22), .val (.int (Int32.ofNat ic)), .val (.int (p5 &&& (7 : Int32))), .val (.ref b39), .val (.ref az_85), .unset] [vz_2])) _
          refine XS.astore X85.here hx rfl (hb hby at_195) rfl R2_0 (l' := #[.val (.int p1), .val (.int p2), .val (.int p3), .val (.int p4), .val (.int p5), .val vz_2, .val vz_5, .val vz_9, .val vz_14, .val (.int (1 : Int32)), .val (.ref b22), .val (.int (Int32.ofNat ic)), .val (.int (p5 &&& (7 : Int32))), .val (.ref b39), .val (.ref az_85), .val vz_2]) (by rcases ref_cases R2_0 with q | ⟨_, q⟩ <;> rw [q] <;> rfl) ?_
          show Steps p.tables e below (T85.setTop (mkF m 197 #[.val (.int p1), .val (.int p2), .val (.int p3), .val (.int p4), .val (.int p5), .val vz_2, .val vz_5, .val vz_9, .val vz_14, .val (.int (1 : Int32)), .val (.ref b22), .val (.int (Int32.ofNat ic)), .val (.int (p5 &&& (7 : Int32))), .val (.ref b39), .val (.ref az_85), .val vz_2] [])) _
          refine XS.goto X85.here hx rfl (pc0 := 197) (pc' := 230) rfl (hb hby at_197) (by decide) (by decide) ?_
          exact kt
        · (try simp only [if_neg hc190] at kt)
          refine XS.ifYes X85.here hx rfl (pc0 := 190) (pc' := 200) rfl (hb hby at_190) rfl ((if0 _ _).trans (feq hc190).2) (by decide) (by decide) ?_
          show Steps p.tables e below (T85.setTop (mkF m 200 #[.val (.int p1), .val (.int p2), .val (.int p3), .val (.int p4), .val (.int p5), .val vz_2, .val vz_5, .val vz_9, .val vz_14, .val (.int (1 : Int32)), .val (.ref b22), .val (.int (Int32.ofNat ic)), .val (.int (p5 &&& (7 : Int32))), .val (.ref b39), .val (.ref az_85), .unset] [])) _
          refine XS.iload X85.here hx rfl (hb hby at_200) rfl ?_
          show Steps p.tables e below (T85.setTop (mkF m 202 #[.val (.int p1), .val (.int p2), .val (.int p3), .val (.int p4), .val (.int p5), .val vz_2, .val vz_5, .val vz_9, .val vz_14, .val (.int (1 : Int32)), .val (.ref b22), .val (.int (Int32.ofNat ic)), .val (.int (p5 &&& (7 : Int32))), .val (.ref b39), .val (.ref az_85), .unset] [(.int (Int32.ofNat ic))])) _
          refine XS.iconst X85.here hx rfl (hb hby at_202) ?_
          show Steps p.tables e below (T85.setTop (mkF m 203 #[.val (.int p1), .val (.int p2), .val (.int p3), .val (.int p4), .val (.int p5), .val vz_2, .val vz_5, .val vz_9, .val vz_14, .val (.int (1 : Int32)), .val (.ref b22), .val (.int (Int32.ofNat ic)), .val (.int (p5 &&& (7 : Int32))), .val (.ref b39), .val (.ref az_85), .unset] [(.int (1 : Int32)), (.int (Int32.ofNat ic))])) _
          by_cases hc203 : (Int32.ofNat ic) = (1 : Int32)
          · (try simp only [if_pos hc203] at kt)
            refine XS.icmpNo X85.here hx rfl (hb hby at_203) rfl (teq hc203).2 ?_
            show Steps p.tables e below (T85.setTop (mkF m 206 #[.val (.int p1), .val (.int p2), .val (.int p3), .val (.int p4), .val (.int p5), .val vz_2, .val vz_5, .val vz_9, .val vz_14, .val (.int (1 : Int32)), .val (.ref b22), .val (.int (Int32.ofNat ic)), .val (.int (p5 &&& (7 : Int32))), .val (.ref b39), .val (.ref az_85), .unset] [])) _
            refine XS.aload X85.here hx rfl (hb hby at_206) rfl R5_0 ?_
            show Steps p.tables e below (T85.setTop (mkF m 208 #[.val (.int p1), .val (.int p2), .val (.int p3), .val (.int p4), .val (.int p5), .val vz_2, .val vz_5, .val vz_9, .val vz_14, .val (.int (1 : Int32)), .val (.ref b22), .val (.int (Int32.ofNat ic)), .val (.int (p5 &&& (7 : Int32))), .val (.ref b39), .val (.ref az_85), .unset] [vz_5])) _
            refine XS.astore X85.here hx rfl (hb hby at_208) rfl R5_0 (l' := #[.val (.int p1), .val (.int p2), .val (.int p3), .val (.int p4), .val (.int p5), .val vz_2, .val vz_5, .val vz_9, .val vz_14, .val (.int (1 : Int32)), .val (.ref b22), .val (.int (Int32.ofNat ic)), .val (.int (p5 &&& (7 : Int32))), .val (.ref b39), .val (.ref az_85), .val vz_5]) (by rcases ref_cases R5_0 with q | ⟨_, q⟩ <;> rw [q] <;> rfl) ?_
            show Steps p.tables e below (T85.setTop (mkF m 210 #[.val (.int p1), .val (.int p2), .val (.int p3), .val (.int p4), .val (.int p5), .val vz_2, .val vz_5, .val vz_9, .val vz_14, .val (.int (1 : Int32)), .val (.ref b22), .val (.int (Int32.ofNat ic)), .val (.int (p5 &&& (7 : Int32))), .val (.ref b39), .val (.ref az_85), .val vz_5] [])) _
            refine XS.goto X85.here hx rfl (pc0 := 210) (pc' := 230) rfl (hb hby at_210) (by decide) (by decide) ?_
            exact kt
          · (try simp only [if_neg hc203] at kt)
            refine XS.icmpYes X85.here hx rfl (pc0 := 203) (pc' := 213) rfl (hb hby at_203) rfl (feq hc203).2 (by decide) (by decide) ?_
            show Steps p.tables e below (T85.setTop (mkF m 213 #[.val (.int p1), .val (.int p2), .val (.int p3), .val (.int p4), .val (.int p5), .val vz_2, .val vz_5, .val vz_9, .val vz_14, .val (.int (1 : Int32)), .val (.ref b22), .val (.int (Int32.ofNat ic)), .val (.int (p5 &&& (7 : Int32))), .val (.ref b39), .val (.ref az_85), .unset] [])) _
            refine XS.iload X85.here hx rfl (hb hby at_213) rfl ?_
            show Steps p.tables e below (T85.setTop (mkF m 215 #[.val (.int p1), .val (.int p2), .val (.int p3), .val (.int p4), .val (.int p5), .val vz_2, .val vz_5, .val vz_9, .val vz_14, .val (.int (1 : Int32)), .val (.ref b22), .val (.int (Int32.ofNat ic)), .val (.int (p5 &&& (7 : Int32))), .val (.ref b39), .val (.ref az_85), .unset] [(.int (Int32.ofNat ic))])) _
            refine XS.iconst X85.here hx rfl (hb hby at_215) ?_
            show Steps p.tables e below (T85.setTop (mkF m 216 #[.val (.int p1), .val (.int p2), .val (.int p3), .val (.int p4), .val (.int p5), .val vz_2, .val vz_5, .val vz_9, .val vz_14, .val (.int (1 : Int32)), .val (.ref b22), .val (.int (Int32.ofNat ic)), .val (.int (p5 &&& (7 : Int32))), .val (.ref b39), .val (.ref az_85), .unset] [(.int (2 : Int32)), (.int (Int32.ofNat ic))])) _
            by_cases hc216 : (Int32.ofNat ic) = (2 : Int32)
            · (try simp only [if_pos hc216] at kt)
              refine XS.icmpNo X85.here hx rfl (hb hby at_216) rfl (teq hc216).2 ?_
              show Steps p.tables e below (T85.setTop (mkF m 219 #[.val (.int p1), .val (.int p2), .val (.int p3), .val (.int p4), .val (.int p5), .val vz_2, .val vz_5, .val vz_9, .val vz_14, .val (.int (1 : Int32)), .val (.ref b22), .val (.int (Int32.ofNat ic)), .val (.int (p5 &&& (7 : Int32))), .val (.ref b39), .val (.ref az_85), .unset] [])) _
              refine XS.aload X85.here hx rfl (hb hby at_219) rfl R9_0 ?_
              show Steps p.tables e below (T85.setTop (mkF m 221 #[.val (.int p1), .val (.int p2), .val (.int p3), .val (.int p4), .val (.int p5), .val vz_2, .val vz_5, .val vz_9, .val vz_14, .val (.int (1 : Int32)), .val (.ref b22), .val (.int (Int32.ofNat ic)), .val (.int (p5 &&& (7 : Int32))), .val (.ref b39), .val (.ref az_85), .unset] [vz_9])) _
              refine XS.astore X85.here hx rfl (hb hby at_221) rfl R9_0 (l' := #[.val (.int p1), .val (.int p2), .val (.int p3), .val (.int p4), .val (.int p5), .val vz_2, .val vz_5, .val vz_9, .val vz_14, .val (.int (1 : Int32)), .val (.ref b22), .val (.int (Int32.ofNat ic)), .val (.int (p5 &&& (7 : Int32))), .val (.ref b39), .val (.ref az_85), .val vz_9]) (by rcases ref_cases R9_0 with q | ⟨_, q⟩ <;> rw [q] <;> rfl) ?_
              show Steps p.tables e below (T85.setTop (mkF m 223 #[.val (.int p1), .val (.int p2), .val (.int p3), .val (.int p4), .val (.int p5), .val vz_2, .val vz_5, .val vz_9, .val vz_14, .val (.int (1 : Int32)), .val (.ref b22), .val (.int (Int32.ofNat ic)), .val (.int (p5 &&& (7 : Int32))), .val (.ref b39), .val (.ref az_85), .val vz_9] [])) _
              refine XS.goto X85.here hx rfl (pc0 := 223) (pc' := 230) rfl (hb hby at_223) (by decide) (by decide) ?_
              exact kt
            · (try simp only [if_neg hc216] at kt)
              refine XS.icmpYes X85.here hx rfl (pc0 := 216) (pc' := 226) rfl (hb hby at_216) rfl (feq hc216).2 (by decide) (by decide) ?_
              show Steps p.tables e below (T85.setTop (mkF m 226 #[.val (.int p1), .val (.int p2), .val (.int p3), .val (.int p4), .val (.int p5), .val vz_2, .val vz_5, .val vz_9, .val vz_14, .val (.int (1 : Int32)), .val (.ref b22), .val (.int (Int32.ofNat ic)), .val (.int (p5 &&& (7 : Int32))), .val (.ref b39), .val (.ref az_85), .unset] [])) _
              refine XS.aload X85.here hx rfl (hb hby at_226) rfl R14_0 ?_
              show Steps p.tables e below (T85.setTop (mkF m 228 #[.val (.int p1), .val (.int p2), .val (.int p3), .val (.int p4), .val (.int p5), .val vz_2, .val vz_5, .val vz_9, .val vz_14, .val (.int (1 : Int32)), .val (.ref b22), .val (.int (Int32.ofNat ic)), .val (.int (p5 &&& (7 : Int32))), .val (.ref b39), .val (.ref az_85), .unset] [vz_14])) _
              refine XS.astore X85.here hx rfl (hb hby at_228) rfl R14_0 (l' := #[.val (.int p1), .val (.int p2), .val (.int p3), .val (.int p4), .val (.int p5), .val vz_2, .val vz_5, .val vz_9, .val vz_14, .val (.int (1 : Int32)), .val (.ref b22), .val (.int (Int32.ofNat ic)), .val (.int (p5 &&& (7 : Int32))), .val (.ref b39), .val (.ref az_85), .val vz_14]) (by rcases ref_cases R14_0 with q | ⟨_, q⟩ <;> rw [q] <;> rfl) ?_
              exact kt
      have hr_v100_0 : v100_0.isRef = true := by rw [hv100_0]; (repeat' split) <;> assumption
      have pre101 : ∀ t, Steps p.tables e below (T85.setTop (mkF m 252 #[.val (.int p1), .val (.int p2), .val (.int p3), .val (.int p4), .val (.int p5), .val vz_2, .val vz_5, .val vz_9, .val vz_14, .val (.int (1 : Int32)), .val (.ref b22), .val (.int (Int32.ofNat ic)), .val (.int (p5 &&& (7 : Int32))), .val (.ref b39), .val (.ref az_85), .val v100_0] [(.ref az_85)])) t → Steps p.tables e below (s₁.setTop (entryFrame m #[(.int p1), (.int p2), (.int p3), (.int p4), (.int p5)] maxLocals)) t := by
        intro t kt
        refine pre100 t ?_
        show Steps p.tables e below (T85.setTop (mkF m 230 #[.val (.int p1), .val (.int p2), .val (.int p3), .val (.int p4), .val (.int p5), .val vz_2, .val vz_5, .val vz_9, .val vz_14, .val (.int (1 : Int32)), .val (.ref b22), .val (.int (Int32.ofNat ic)), .val (.int (p5 &&& (7 : Int32))), .val (.ref b39), .val (.ref az_85), .val v100_0] [])) _
        refine XS.iload X85.here hx rfl (hb hby at_230) rfl ?_
        show Steps p.tables e below (T85.setTop (mkF m 232 #[.val (.int p1), .val (.int p2), .val (.int p3), .val (.int p4), .val (.int p5), .val vz_2, .val vz_5, .val vz_9, .val vz_14, .val (.int (1 : Int32)), .val (.ref b22), .val (.int (Int32.ofNat ic)), .val (.int (p5 &&& (7 : Int32))), .val (.ref b39), .val (.ref az_85), .val v100_0] [(.int (Int32.ofNat ic))])) _
        refine XS.iload X85.here hx rfl (hb hby at_232) rfl ?_
        show Steps p.tables e below (T85.setTop (mkF m 234 #[.val (.int p1), .val (.int p2), .val (.int p3), .val (.int p4), .val (.int p5), .val vz_2, .val vz_5, .val vz_9, .val vz_14, .val (.int (1 : Int32)), .val (.ref b22), .val (.int (Int32.ofNat ic)), .val (.int (p5 &&& (7 : Int32))), .val (.ref b39), .val (.ref az_85), .val v100_0] [(.int (p5 &&& (7 : Int32))), (.int (Int32.ofNat ic))])) _
        refine XS.icmpYes X85.here hx rfl (pc0 := 234) (pc' := 250) rfl (hb hby at_234) rfl (flt hsz).2.1 (by decide) (by decide) ?_
        show Steps p.tables e below (T85.setTop (mkF m 250 #[.val (.int p1), .val (.int p2), .val (.int p3), .val (.int p4), .val (.int p5), .val vz_2, .val vz_5, .val vz_9, .val vz_14, .val (.int (1 : Int32)), .val (.ref b22), .val (.int (Int32.ofNat ic)), .val (.int (p5 &&& (7 : Int32))), .val (.ref b39), .val (.ref az_85), .val v100_0] [])) _
        refine XS.aload X85.here hx rfl (hb hby at_250) rfl rfl ?_
        exact kt
      have pre102 : ∀ t, Steps p.tables e below (T85.setTop (mkF m 255 #[.val (.int p1), .val (.int p2), .val (.int p3), .val (.int p4), .val (.int p5), .val vz_2, .val vz_5, .val vz_9, .val vz_14, .val (.int (1 : Int32)), .val (.ref b22), .val (.int (Int32.ofNat ic)), .val (.int (p5 &&& (7 : Int32))), .val (.ref b39), .val (.ref az_85), .val v100_0] [])) t → Steps p.tables e below (s₁.setTop (entryFrame m #[(.int p1), (.int p2), (.int p3), (.int p4), (.int p5)] maxLocals)) t := fun t kt => pre101 t (XS.ifnullNo X85.here hx rfl (hb hby at_252) rfl kt)
      have pre103 : ∀ t, Steps p.tables e below (T85.setTop (mkF m 257 #[.val (.int p1), .val (.int p2), .val (.int p3), .val (.int p4), .val (.int p5), .val vz_2, .val vz_5, .val vz_9, .val vz_14, .val (.int (1 : Int32)), .val (.ref b22), .val (.int (Int32.ofNat ic)), .val (.int (p5 &&& (7 : Int32))), .val (.ref b39), .val (.ref az_85), .val v100_0] [(.ref az_85)])) t → Steps p.tables e below (s₁.setTop (entryFrame m #[(.int p1), (.int p2), (.int p3), (.int p4), (.int p5)] maxLocals)) t := by
        intro t kt
        refine pre102 t ?_
        show Steps p.tables e below (T85.setTop (mkF m 255 #[.val (.int p1), .val (.int p2), .val (.int p3), .val (.int p4), .val (.int p5), .val vz_2, .val vz_5, .val vz_9, .val vz_14, .val (.int (1 : Int32)), .val (.ref b22), .val (.int (Int32.ofNat ic)), .val (.int (p5 &&& (7 : Int32))), .val (.ref b39), .val (.ref az_85), .val v100_0] [])) _
        refine XS.aload X85.here hx rfl (hb hby at_255) rfl rfl ?_
        exact kt
      obtain ⟨cq104, kq104, q104a, q104b, q104c⟩ := isOf hZ rfl E_az_85_85
      obtain ⟨_, _, ⟨T104, L104, k104, n104⟩, -, X104, ⟨Lc104, hQ104, l104, y104, z104⟩, st104⟩ := X85.virtualBack hx (y := (⟨"java/lang/String", "isEmpty", "()Z"⟩ : MethodName)) (z := (⟨"java/lang/String", "isEmpty", "()Z"⟩ : MethodName)) hown (mvT hZ (hw _ (List.mem_of_getElem? (i := 67) rfl))) (mvT hZ (hw _ (List.mem_of_getElem? (i := 68) rfl))) (notFace_of_selects (args := #[]) (mvT hZ (hw _ (List.mem_of_getElem? (i := 70) rfl)))) (mvT hZ (hw _ (List.mem_of_getElem? (i := 70) rfl))) (mvT hZ (hw _ (List.mem_of_getElem? (i := 69) rfl))) (by decide) (backOf (W := 0) (rm11 l Z a0 hw [] az_85 tz_85 kz_85 ((own_cs66.map fun c => c.toInt8.toInt32).map Value.int) T85.heap n0 Z85 F_value_az_85_85 V_tz_85_85) hZ (hw _ (List.mem_of_getElem? (i := 71) rfl)) (hw _ (List.mem_of_getElem? (i := 6) rfl)) (by decide) (by decide)) q104a q104c (g := (mkF m 257 #[.val (.int p1), .val (.int p2), .val (.int p3), .val (.int p4), .val (.int p5), .val vz_2, .val vz_5, .val vz_9, .val vz_14, .val (.int (1 : Int32)), .val (.ref b22), .val (.int (Int32.ofNat ic)), .val (.int (p5 &&& (7 : Int32))), .val (.ref b39), .val (.ref az_85), .val v100_0] [(.ref az_85)])) rfl (by rw [hml]; rfl) (Steps.refl _) (argsL := []) (rest := []) (lenOf pd_9 rfl) rfl (by show 2 * 0 + _ ≤ _; exact Nat.le_of_eq rfl) (hb hby at_257) (fun _ _ => ⟨rfl, rfl, (by decide : 14 + 0 ≤ _), (by decide : 38 + 0 ≤ _)⟩)
      dsimp only [Pt.U, Pt.locs, Pt.cells, Pt.slots] at X104 l104 y104 z104 st104 hQ104
      subst l104 y104 z104
      obtain ⟨rfl, N104q, e104⟩ := hQ104
      have N104 := Fr.app N85 N104q
      have pre104 : ∀ t, Steps p.tables e below (T104.setTop (mkF m 260 #[.val (.int p1), .val (.int p2), .val (.int p3), .val (.int p4), .val (.int p5), .val vz_2, .val vz_5, .val vz_9, .val vz_14, .val (.int (1 : Int32)), .val (.ref b22), .val (.int (Int32.ofNat ic)), .val (.int (p5 &&& (7 : Int32))), .val (.ref b39), .val (.ref az_85), .val v100_0] [(.int (1 : Int32))])) t → Steps p.tables e below (s₁.setTop (entryFrame m #[(.int p1), (.int p2), (.int p3), (.int p4), (.int p5)] maxLocals)) t := fun t kt => pre103 t (st104.trans kt)
      have pre105 : ∀ t, Steps p.tables e below (T104.setTop (mkF m 268 #[.val (.int p1), .val (.int p2), .val (.int p3), .val (.int p4), .val (.int p5), .val vz_2, .val vz_5, .val vz_9, .val vz_14, .val (.int (1 : Int32)), .val (.ref b22), .val (.int (Int32.ofNat ic)), .val (.int (p5 &&& (7 : Int32))), .val (.ref b39), .val (.ref az_85), .val v100_0] [(.int (1 : Int32))])) t → Steps p.tables e below (s₁.setTop (entryFrame m #[(.int p1), (.int p2), (.int p3), (.int p4), (.int p5)] maxLocals)) t := by
        intro t kt
        refine pre104 t ?_
        show Steps p.tables e below (T104.setTop (mkF m 260 #[.val (.int p1), .val (.int p2), .val (.int p3), .val (.int p4), .val (.int p5), .val vz_2, .val vz_5, .val vz_9, .val vz_14, .val (.int (1 : Int32)), .val (.ref b22), .val (.int (Int32.ofNat ic)), .val (.int (p5 &&& (7 : Int32))), .val (.ref b39), .val (.ref az_85), .val v100_0] [(.int (1 : Int32))])) _
        refine XS.ifNo X104.here hx rfl (hb hby at_260) rfl ((if0 _ _).trans (feq (by decide)).1) ?_
        show Steps p.tables e below (T104.setTop (mkF m 263 #[.val (.int p1), .val (.int p2), .val (.int p3), .val (.int p4), .val (.int p5), .val vz_2, .val vz_5, .val vz_9, .val vz_14, .val (.int (1 : Int32)), .val (.ref b22), .val (.int (Int32.ofNat ic)), .val (.int (p5 &&& (7 : Int32))), .val (.ref b39), .val (.ref az_85), .val v100_0] [])) _
        refine XS.iconst X104.here hx rfl (hb hby at_263) ?_
        show Steps p.tables e below (T104.setTop (mkF m 264 #[.val (.int p1), .val (.int p2), .val (.int p3), .val (.int p4), .val (.int p5), .val vz_2, .val vz_5, .val vz_9, .val vz_14, .val (.int (1 : Int32)), .val (.ref b22), .val (.int (Int32.ofNat ic)), .val (.int (p5 &&& (7 : Int32))), .val (.ref b39), .val (.ref az_85), .val v100_0] [(.int (1 : Int32))])) _
        refine XS.goto X104.here hx rfl (pc0 := 264) (pc' := 268) rfl (hb hby at_264) (by decide) (by decide) ?_
        exact kt
      obtain ⟨fs, hr, hrun, hended, hEnd⟩ := X104.leaveW (s := s) (vm₁ := T85.vm) hS85 (by rw [e104]; exact (Nat.le_refl T85.heap.size)) (v := some (.int (1 : Int32))) (fun h => by rw [Bd.returns] at h; cases h)
      refine ⟨_, _, pre105 _ ?_, hrun, hended, _, _, rfl, ?_, hEnd.1, hEnd.2.1, hEnd.2.2.1, hEnd.2.2.2.mono (by decide) (by decide)⟩
      · show Steps p.tables e below (T104.setTop (mkF m 268 #[.val (.int p1), .val (.int p2), .val (.int p3), .val (.int p4), .val (.int p5), .val vz_2, .val vz_5, .val vz_9, .val vz_14, .val (.int (1 : Int32)), .val (.ref b22), .val (.int (Int32.ofNat ic)), .val (.int (p5 &&& (7 : Int32))), .val (.ref b39), .val (.ref az_85), .val v100_0] [(.int (1 : Int32))])) _
        exact retN X104 hx (t := .boolean) Bd.returns (by simp) (hb hby at_268) hr
      · show Q0 n0 _ T104.heap _
        rw [e104]
        exact ⟨rfl, N104⟩
  · have pre106 : ∀ t, Steps p.tables e below (T14.setTop (mkF m 65 #[.val (.int p1), .val (.int p2), .val (.int p3), .val (.int p4), .val (.int p5), .val vz_2, .val vz_5, .val vz_9, .val vz_14, .val (.int ((1 : Int32) + (p3 &&& (3 : Int32)))), .unset, .unset, .unset, .unset, .unset, .unset] [])) t → Steps p.tables e below (s₁.setTop (entryFrame m #[(.int p1), (.int p2), (.int p3), (.int p4), (.int p5)] maxLocals)) t := by
      intro t kt
      refine pre19 t ?_
      show Steps p.tables e below (T14.setTop (mkF m 48 #[.val (.int p1), .val (.int p2), .val (.int p3), .val (.int p4), .val (.int p5), .val vz_2, .val vz_5, .val vz_9, .val vz_14, .val (.int ((1 : Int32) + (p3 &&& (3 : Int32)))), .unset, .unset, .unset, .unset, .unset, .unset] [(.int (1 : Int32)), (.int ((1 : Int32) + (p3 &&& (3 : Int32))))])) _
      refine XS.icmpYes X14.here hx rfl (pc0 := 48) (pc' := 65) rfl (hb hby at_48) rfl (feq hc48).2 (by decide) (by decide) ?_
      exact kt
    have pre107 : ∀ t, Steps p.tables e below (T14.setTop (mkF m 68 #[.val (.int p1), .val (.int p2), .val (.int p3), .val (.int p4), .val (.int p5), .val vz_2, .val vz_5, .val vz_9, .val vz_14, .val (.int ((1 : Int32) + (p3 &&& (3 : Int32)))), .unset, .unset, .unset, .unset, .unset, .unset] [(.int (2 : Int32)), (.int ((1 : Int32) + (p3 &&& (3 : Int32))))])) t → Steps p.tables e below (s₁.setTop (entryFrame m #[(.int p1), (.int p2), (.int p3), (.int p4), (.int p5)] maxLocals)) t := by
      intro t kt
      refine pre106 t ?_
      show Steps p.tables e below (T14.setTop (mkF m 65 #[.val (.int p1), .val (.int p2), .val (.int p3), .val (.int p4), .val (.int p5), .val vz_2, .val vz_5, .val vz_9, .val vz_14, .val (.int ((1 : Int32) + (p3 &&& (3 : Int32)))), .unset, .unset, .unset, .unset, .unset, .unset] [])) _
      refine XS.iload X14.here hx rfl (hb hby at_65) rfl ?_
      show Steps p.tables e below (T14.setTop (mkF m 67 #[.val (.int p1), .val (.int p2), .val (.int p3), .val (.int p4), .val (.int p5), .val vz_2, .val vz_5, .val vz_9, .val vz_14, .val (.int ((1 : Int32) + (p3 &&& (3 : Int32)))), .unset, .unset, .unset, .unset, .unset, .unset] [(.int ((1 : Int32) + (p3 &&& (3 : Int32))))])) _
      refine XS.iconst X14.here hx rfl (hb hby at_67) ?_
      exact kt
    by_cases hc68 : ((1 : Int32) + (p3 &&& (3 : Int32))) = (2 : Int32)
    · have pre108 : ∀ t, Steps p.tables e below (T14.setTop (mkF m 71 #[.val (.int p1), .val (.int p2), .val (.int p3), .val (.int p4), .val (.int p5), .val vz_2, .val vz_5, .val vz_9, .val vz_14, .val (.int ((1 : Int32) + (p3 &&& (3 : Int32)))), .unset, .unset, .unset, .unset, .unset, .unset] [])) t → Steps p.tables e below (s₁.setTop (entryFrame m #[(.int p1), (.int p2), (.int p3), (.int p4), (.int p5)] maxLocals)) t := by
        intro t kt
        refine pre107 t ?_
        show Steps p.tables e below (T14.setTop (mkF m 68 #[.val (.int p1), .val (.int p2), .val (.int p3), .val (.int p4), .val (.int p5), .val vz_2, .val vz_5, .val vz_9, .val vz_14, .val (.int ((1 : Int32) + (p3 &&& (3 : Int32)))), .unset, .unset, .unset, .unset, .unset, .unset] [(.int (2 : Int32)), (.int ((1 : Int32) + (p3 &&& (3 : Int32))))])) _
        refine XS.icmpNo X14.here hx rfl (hb hby at_68) rfl (teq hc68).2 ?_
        exact kt
      have pre109 : ∀ t, Steps p.tables e below (T14.setTop (mkF m 72 #[.val (.int p1), .val (.int p2), .val (.int p3), .val (.int p4), .val (.int p5), .val vz_2, .val vz_5, .val vz_9, .val vz_14, .val (.int ((1 : Int32) + (p3 &&& (3 : Int32)))), .unset, .unset, .unset, .unset, .unset, .unset] [(.int (2 : Int32))])) t → Steps p.tables e below (s₁.setTop (entryFrame m #[(.int p1), (.int p2), (.int p3), (.int p4), (.int p5)] maxLocals)) t := by
        intro t kt
        refine pre108 t ?_
        show Steps p.tables e below (T14.setTop (mkF m 71 #[.val (.int p1), .val (.int p2), .val (.int p3), .val (.int p4), .val (.int p5), .val vz_2, .val vz_5, .val vz_9, .val vz_14, .val (.int ((1 : Int32) + (p3 &&& (3 : Int32)))), .unset, .unset, .unset, .unset, .unset, .unset] [])) _
        refine XS.iconst X14.here hx rfl (hb hby at_71) ?_
        exact kt
      obtain ⟨T110, h110, k110, X110, e110, E110, A110, O110, st110⟩ := newR X14 hx hZ hown (hw _ (List.mem_of_getElem? (i := 30) rfl)) (hw _ (List.mem_of_getElem? (i := 31) rfl)) rfl (g := (mkF m 72 #[.val (.int p1), .val (.int p2), .val (.int p3), .val (.int p4), .val (.int p5), .val vz_2, .val vz_5, .val vz_9, .val vz_14, .val (.int ((1 : Int32) + (p3 &&& (3 : Int32)))), .unset, .unset, .unset, .unset, .unset, .unset] [(.int (2 : Int32))])) rfl (hb hby at_72) rfl (by decide) (cap := 2) (by decide) (by decide) (by decide) (by decide)
      obtain ⟨b110, g110⟩ : ∃ z, z = T14.heap.size := ⟨_, rfl⟩
      have g_b110 : n0 ≤ b110 := Nat.le_trans Z14 (Nat.le_of_eq g110.symm)
      have sz_b110 : h0.size ≤ b110 := Nat.le_trans K14.1 (Nat.le_of_eq g110.symm)
      rw [← g110] at A110 st110
      have K110 : Keep h0 h110 [] := K14.ext E110
      have Z110 : n0 ≤ h110.size := Nat.le_trans Z14 E110.1
      have mo110_0 := Nat.le_trans mo14_0 E110.1
      have CR110 := CR14.trans (CHr.ext E110 CR14.1)
      have SCS_111 := SCS_15.ext E110
      have SS_vz_2_2_112 := own_Sext SS_vz_2_2_16 E110
      have SS_vz_5_5_113 := own_Sext SS_vz_5_5_17 E110
      have SS_vz_9_9_114 := own_Sext SS_vz_9_9_18 E110
      have SS_vz_14_14_115 := own_Sext SS_vz_14_14 E110
      have V_b110 : Arv Z h110 b110 k110 (.object "java/lang/String") (2 : Int32) [.null, .null] .null := (Arv.new A110 (by decide)).pad (pad_rep [] .null 2)
      have pre110 : ∀ t, Steps p.tables e below (T110.setTop (mkF m 75 #[.val (.int p1), .val (.int p2), .val (.int p3), .val (.int p4), .val (.int p5), .val vz_2, .val vz_5, .val vz_9, .val vz_14, .val (.int ((1 : Int32) + (p3 &&& (3 : Int32)))), .unset, .unset, .unset, .unset, .unset, .unset] [(.ref b110)])) t → Steps p.tables e below (s₁.setTop (entryFrame m #[(.int p1), (.int p2), (.int p3), (.int p4), (.int p5)] maxLocals)) t := fun t kt => pre109 t (st110 _ kt)
      have pre116 : ∀ t, Steps p.tables e below (T110.setTop (mkF m 79 #[.val (.int p1), .val (.int p2), .val (.int p3), .val (.int p4), .val (.int p5), .val vz_2, .val vz_5, .val vz_9, .val vz_14, .val (.int ((1 : Int32) + (p3 &&& (3 : Int32)))), .unset, .unset, .unset, .unset, .unset, .unset] [vz_2, (.int (0 : Int32)), (.ref b110), (.ref b110)])) t → Steps p.tables e below (s₁.setTop (entryFrame m #[(.int p1), (.int p2), (.int p3), (.int p4), (.int p5)] maxLocals)) t := by
        intro t kt
        refine pre110 t ?_
        show Steps p.tables e below (T110.setTop (mkF m 75 #[.val (.int p1), .val (.int p2), .val (.int p3), .val (.int p4), .val (.int p5), .val vz_2, .val vz_5, .val vz_9, .val vz_14, .val (.int ((1 : Int32) + (p3 &&& (3 : Int32)))), .unset, .unset, .unset, .unset, .unset, .unset] [(.ref b110)])) _
        refine XS.dup X110.here hx rfl (hb hby at_75) rfl rfl ?_
        show Steps p.tables e below (T110.setTop (mkF m 76 #[.val (.int p1), .val (.int p2), .val (.int p3), .val (.int p4), .val (.int p5), .val vz_2, .val vz_5, .val vz_9, .val vz_14, .val (.int ((1 : Int32) + (p3 &&& (3 : Int32)))), .unset, .unset, .unset, .unset, .unset, .unset] [(.ref b110), (.ref b110)])) _
        refine XS.iconst X110.here hx rfl (hb hby at_76) ?_
        show Steps p.tables e below (T110.setTop (mkF m 77 #[.val (.int p1), .val (.int p2), .val (.int p3), .val (.int p4), .val (.int p5), .val vz_2, .val vz_5, .val vz_9, .val vz_14, .val (.int ((1 : Int32) + (p3 &&& (3 : Int32)))), .unset, .unset, .unset, .unset, .unset, .unset] [(.int (0 : Int32)), (.ref b110), (.ref b110)])) _
        refine XS.aload X110.here hx rfl (hb hby at_77) rfl R2_0 ?_
        exact kt
      obtain ⟨cl117, Ar117, q117, S117, M117, H117, G117⟩ := (id V_b110)
      have hin117 : ¬ ((0 : Int32) < 0 ∨ cl117.slots.size ≤ ((0 : Int32)).toNatClampNeg) := inb_of S117 ⟨by decide, by decide⟩
      obtain ⟨T117, h117, X117, e117, W117, st117⟩ := stR X110 hx hZ e110 Ar117 (j := (0 : Int32)) hin117 rfl (own_sto Ar117 q117 O110 SS_vz_2_2_112) (g := (mkF m 79 #[.val (.int p1), .val (.int p2), .val (.int p3), .val (.int p4), .val (.int p5), .val vz_2, .val vz_5, .val vz_9, .val vz_14, .val (.int ((1 : Int32) + (p3 &&& (3 : Int32)))), .unset, .unset, .unset, .unset, .unset, .unset] [vz_2, (.int (0 : Int32)), (.ref b110), (.ref b110)])) rfl rfl (hb hby at_79)
      have V_b110_117 := Arv.set Ar117 q117 S117 M117 H117 G117 (own_fits R2_0) W117 0 rfl (Nat.le_of_ble_eq_true rfl)
      have N117 := Fr.snoc X117 N14 g_b110
      have K117 : Keep h0 h117 [] := K110.wr W117 (Or.inr sz_b110)
      have Z117 : n0 ≤ h117.size := Nat.le_trans Z110 (Keep.of_wr W117).1
      have mo117_0 := Nat.le_trans mo110_0 (Keep.of_wr W117).1
      have CR117 := CR110.trans (CHr.wr W117 (Safe.arv (hZ.alike) V_b110 (by decide)) CR110.1)
      have SCS_118 := SCS_111.wr W117
      have SS_vz_2_2_119 := own_Swr SS_vz_2_2_112 W117
      have SS_vz_5_5_120 := own_Swr SS_vz_5_5_113 W117
      have SS_vz_9_9_121 := own_Swr SS_vz_9_9_114 W117
      have SS_vz_14_14_122 := own_Swr SS_vz_14_14_115 W117
      have V_b110_117' : Arv Z h117 b110 k110 (.object "java/lang/String") (2 : Int32) [vz_2, .null] .null := V_b110_117
      have pre117 : ∀ t, Steps p.tables e below (T117.setTop (mkF m 80 #[.val (.int p1), .val (.int p2), .val (.int p3), .val (.int p4), .val (.int p5), .val vz_2, .val vz_5, .val vz_9, .val vz_14, .val (.int ((1 : Int32) + (p3 &&& (3 : Int32)))), .unset, .unset, .unset, .unset, .unset, .unset] [(.ref b110)])) t → Steps p.tables e below (s₁.setTop (entryFrame m #[(.int p1), (.int p2), (.int p3), (.int p4), (.int p5)] maxLocals)) t := fun t kt => pre116 t (st117 _ kt)
      have pre124 : ∀ t, Steps p.tables e below (T117.setTop (mkF m 84 #[.val (.int p1), .val (.int p2), .val (.int p3), .val (.int p4), .val (.int p5), .val vz_2, .val vz_5, .val vz_9, .val vz_14, .val (.int ((1 : Int32) + (p3 &&& (3 : Int32)))), .unset, .unset, .unset, .unset, .unset, .unset] [vz_5, (.int (1 : Int32)), (.ref b110), (.ref b110)])) t → Steps p.tables e below (s₁.setTop (entryFrame m #[(.int p1), (.int p2), (.int p3), (.int p4), (.int p5)] maxLocals)) t := by
        intro t kt
        refine pre117 t ?_
        show Steps p.tables e below (T117.setTop (mkF m 80 #[.val (.int p1), .val (.int p2), .val (.int p3), .val (.int p4), .val (.int p5), .val vz_2, .val vz_5, .val vz_9, .val vz_14, .val (.int ((1 : Int32) + (p3 &&& (3 : Int32)))), .unset, .unset, .unset, .unset, .unset, .unset] [(.ref b110)])) _
        refine XS.dup X117.here hx rfl (hb hby at_80) rfl rfl ?_
        show Steps p.tables e below (T117.setTop (mkF m 81 #[.val (.int p1), .val (.int p2), .val (.int p3), .val (.int p4), .val (.int p5), .val vz_2, .val vz_5, .val vz_9, .val vz_14, .val (.int ((1 : Int32) + (p3 &&& (3 : Int32)))), .unset, .unset, .unset, .unset, .unset, .unset] [(.ref b110), (.ref b110)])) _
        refine XS.iconst X117.here hx rfl (hb hby at_81) ?_
        show Steps p.tables e below (T117.setTop (mkF m 82 #[.val (.int p1), .val (.int p2), .val (.int p3), .val (.int p4), .val (.int p5), .val vz_2, .val vz_5, .val vz_9, .val vz_14, .val (.int ((1 : Int32) + (p3 &&& (3 : Int32)))), .unset, .unset, .unset, .unset, .unset, .unset] [(.int (1 : Int32)), (.ref b110), (.ref b110)])) _
        refine XS.aload X117.here hx rfl (hb hby at_82) rfl R5_0 ?_
        exact kt
      obtain ⟨cl125, Ar125, q125, S125, M125, H125, G125⟩ := (id V_b110_117')
      have hin125 : ¬ ((1 : Int32) < 0 ∨ cl125.slots.size ≤ ((1 : Int32)).toNatClampNeg) := inb_of S125 ⟨by decide, by decide⟩
      obtain ⟨T125, h125, X125, e125, W125, st125⟩ := stR X117 hx hZ e117 Ar125 (j := (1 : Int32)) hin125 rfl (own_sto Ar125 q125 O110 SS_vz_5_5_120) (g := (mkF m 84 #[.val (.int p1), .val (.int p2), .val (.int p3), .val (.int p4), .val (.int p5), .val vz_2, .val vz_5, .val vz_9, .val vz_14, .val (.int ((1 : Int32) + (p3 &&& (3 : Int32)))), .unset, .unset, .unset, .unset, .unset, .unset] [vz_5, (.int (1 : Int32)), (.ref b110), (.ref b110)])) rfl rfl (hb hby at_84)
      have V_b110_125 := Arv.set Ar125 q125 S125 M125 H125 G125 (own_fits R5_0) W125 1 rfl (Nat.le_of_ble_eq_true rfl)
      have N125 := Fr.snoc X125 N117 g_b110
      have K125 : Keep h0 h125 [] := K117.wr W125 (Or.inr sz_b110)
      have Z125 : n0 ≤ h125.size := Nat.le_trans Z117 (Keep.of_wr W125).1
      have mo125_0 := Nat.le_trans mo117_0 (Keep.of_wr W125).1
      have CR125 := CR117.trans (CHr.wr W125 (Safe.arv (hZ.alike) V_b110_117' (by decide)) CR117.1)
      have SCS_126 := SCS_118.wr W125
      have SS_vz_2_2_127 := own_Swr SS_vz_2_2_119 W125
      have SS_vz_5_5_128 := own_Swr SS_vz_5_5_120 W125
      have SS_vz_9_9_129 := own_Swr SS_vz_9_9_121 W125
      have SS_vz_14_14_130 := own_Swr SS_vz_14_14_122 W125
      have V_b110_125' : Arv Z h125 b110 k110 (.object "java/lang/String") (2 : Int32) [vz_2, vz_5] .null := V_b110_125
      have pre125 : ∀ t, Steps p.tables e below (T125.setTop (mkF m 85 #[.val (.int p1), .val (.int p2), .val (.int p3), .val (.int p4), .val (.int p5), .val vz_2, .val vz_5, .val vz_9, .val vz_14, .val (.int ((1 : Int32) + (p3 &&& (3 : Int32)))), .unset, .unset, .unset, .unset, .unset, .unset] [(.ref b110)])) t → Steps p.tables e below (s₁.setTop (entryFrame m #[(.int p1), (.int p2), (.int p3), (.int p4), (.int p5)] maxLocals)) t := fun t kt => pre124 t (st125 _ kt)
      have pre132 : ∀ t, Steps p.tables e below (T125.setTop (mkF m 146 #[.val (.int p1), .val (.int p2), .val (.int p3), .val (.int p4), .val (.int p5), .val vz_2, .val vz_5, .val vz_9, .val vz_14, .val (.int ((1 : Int32) + (p3 &&& (3 : Int32)))), .val (.ref b110), .unset, .unset, .unset, .unset, .unset] [])) t → Steps p.tables e below (s₁.setTop (entryFrame m #[(.int p1), (.int p2), (.int p3), (.int p4), (.int p5)] maxLocals)) t := by
        intro t kt
        refine pre125 t ?_
        show Steps p.tables e below (T125.setTop (mkF m 85 #[.val (.int p1), .val (.int p2), .val (.int p3), .val (.int p4), .val (.int p5), .val vz_2, .val vz_5, .val vz_9, .val vz_14, .val (.int ((1 : Int32) + (p3 &&& (3 : Int32)))), .unset, .unset, .unset, .unset, .unset, .unset] [(.ref b110)])) _
        refine XS.astore X125.here hx rfl (hb hby at_85) rfl rfl (l' := #[.val (.int p1), .val (.int p2), .val (.int p3), .val (.int p4), .val (.int p5), .val vz_2, .val vz_5, .val vz_9, .val vz_14, .val (.int ((1 : Int32) + (p3 &&& (3 : Int32)))), .val (.ref b110), .unset, .unset, .unset, .unset, .unset]) rfl ?_
        show Steps p.tables e below (T125.setTop (mkF m 87 #[.val (.int p1), .val (.int p2), .val (.int p3), .val (.int p4), .val (.int p5), .val vz_2, .val vz_5, .val vz_9, .val vz_14, .val (.int ((1 : Int32) + (p3 &&& (3 : Int32)))), .val (.ref b110), .unset, .unset, .unset, .unset, .unset] [])) _
        refine XS.goto X125.here hx rfl (pc0 := 87) (pc' := 146) rfl (hb hby at_87) (by decide) (by decide) ?_
        exact kt
      rw [hc68] at pre132
      have pre133 : ∀ t, Steps p.tables e below (T125.setTop (mkF m 155 #[.val (.int p1), .val (.int p2), .val (.int p3), .val (.int p4), .val (.int p5), .val vz_2, .val vz_5, .val vz_9, .val vz_14, .val (.int (2 : Int32)), .val (.ref b110), .val (.int ((p4 &&& (2147483647 : Int32)) % (2 : Int32))), .unset, .unset, .unset, .unset] [])) t → Steps p.tables e below (s₁.setTop (entryFrame m #[(.int p1), (.int p2), (.int p3), (.int p4), (.int p5)] maxLocals)) t := by
        intro t kt
        refine pre132 t ?_
        show Steps p.tables e below (T125.setTop (mkF m 146 #[.val (.int p1), .val (.int p2), .val (.int p3), .val (.int p4), .val (.int p5), .val vz_2, .val vz_5, .val vz_9, .val vz_14, .val (.int (2 : Int32)), .val (.ref b110), .unset, .unset, .unset, .unset, .unset] [])) _
        refine XS.iloadN X125.here hx rfl (hb hby at_146) rfl ?_
        show Steps p.tables e below (T125.setTop (mkF m 147 #[.val (.int p1), .val (.int p2), .val (.int p3), .val (.int p4), .val (.int p5), .val vz_2, .val vz_5, .val vz_9, .val vz_14, .val (.int (2 : Int32)), .val (.ref b110), .unset, .unset, .unset, .unset, .unset] [(.int p4)])) _
        refine X125.ldcInt hx hown (mvT hZ (hw _ (List.mem_of_getElem? (i := 32) rfl))) (g := (mkF m 147 #[.val (.int p1), .val (.int p2), .val (.int p3), .val (.int p4), .val (.int p5), .val vz_2, .val vz_5, .val vz_9, .val vz_14, .val (.int (2 : Int32)), .val (.ref b110), .unset, .unset, .unset, .unset, .unset] [(.int p4)])) rfl (hb hby at_147) _ ?_
        show Steps p.tables e below (T125.setTop (mkF m 149 #[.val (.int p1), .val (.int p2), .val (.int p3), .val (.int p4), .val (.int p5), .val vz_2, .val vz_5, .val vz_9, .val vz_14, .val (.int (2 : Int32)), .val (.ref b110), .unset, .unset, .unset, .unset, .unset] [(.int (2147483647 : Int32)), (.int p4)])) _
        refine XS.iand X125.here hx rfl (hb hby at_149) rfl ?_
        show Steps p.tables e below (T125.setTop (mkF m 150 #[.val (.int p1), .val (.int p2), .val (.int p3), .val (.int p4), .val (.int p5), .val vz_2, .val vz_5, .val vz_9, .val vz_14, .val (.int (2 : Int32)), .val (.ref b110), .unset, .unset, .unset, .unset, .unset] [(.int (p4 &&& (2147483647 : Int32)))])) _
        refine XS.iload X125.here hx rfl (hb hby at_150) rfl ?_
        show Steps p.tables e below (T125.setTop (mkF m 152 #[.val (.int p1), .val (.int p2), .val (.int p3), .val (.int p4), .val (.int p5), .val vz_2, .val vz_5, .val vz_9, .val vz_14, .val (.int (2 : Int32)), .val (.ref b110), .unset, .unset, .unset, .unset, .unset] [(.int (2 : Int32)), (.int (p4 &&& (2147483647 : Int32)))])) _
        refine iremM X125 hx rfl (hb hby at_152) rfl (by decide) ?_
        show Steps p.tables e below (T125.setTop (mkF m 153 #[.val (.int p1), .val (.int p2), .val (.int p3), .val (.int p4), .val (.int p5), .val vz_2, .val vz_5, .val vz_9, .val vz_14, .val (.int (2 : Int32)), .val (.ref b110), .unset, .unset, .unset, .unset, .unset] [(.int ((p4 &&& (2147483647 : Int32)) % (2 : Int32)))])) _
        refine XS.istore X125.here hx rfl (hb hby at_153) rfl (l' := #[.val (.int p1), .val (.int p2), .val (.int p3), .val (.int p4), .val (.int p5), .val vz_2, .val vz_5, .val vz_9, .val vz_14, .val (.int (2 : Int32)), .val (.ref b110), .val (.int ((p4 &&& (2147483647 : Int32)) % (2 : Int32))), .unset, .unset, .unset, .unset]) rfl ?_
        exact kt
      obtain ⟨ic, hic, eic⟩ := own_col2 p4
      rw [eic] at pre133
      have pre134 : ∀ t, Steps p.tables e below (T125.setTop (mkF m 162 #[.val (.int p1), .val (.int p2), .val (.int p3), .val (.int p4), .val (.int p5), .val vz_2, .val vz_5, .val vz_9, .val vz_14, .val (.int (2 : Int32)), .val (.ref b110), .val (.int (Int32.ofNat ic)), .val (.int (p5 &&& (7 : Int32))), .unset, .unset, .unset] [])) t → Steps p.tables e below (s₁.setTop (entryFrame m #[(.int p1), (.int p2), (.int p3), (.int p4), (.int p5)] maxLocals)) t := by
        intro t kt
        refine pre133 t ?_
        show Steps p.tables e below (T125.setTop (mkF m 155 #[.val (.int p1), .val (.int p2), .val (.int p3), .val (.int p4), .val (.int p5), .val vz_2, .val vz_5, .val vz_9, .val vz_14, .val (.int (2 : Int32)), .val (.ref b110), .val (.int (Int32.ofNat ic)), .unset, .unset, .unset, .unset] [])) _
        refine XS.iload X125.here hx rfl (hb hby at_155) rfl ?_
        show Steps p.tables e below (T125.setTop (mkF m 157 #[.val (.int p1), .val (.int p2), .val (.int p3), .val (.int p4), .val (.int p5), .val vz_2, .val vz_5, .val vz_9, .val vz_14, .val (.int (2 : Int32)), .val (.ref b110), .val (.int (Int32.ofNat ic)), .unset, .unset, .unset, .unset] [(.int p5)])) _
        refine XS.bipush X125.here hx rfl (hb hby at_157) ?_
        show Steps p.tables e below (T125.setTop (mkF m 159 #[.val (.int p1), .val (.int p2), .val (.int p3), .val (.int p4), .val (.int p5), .val vz_2, .val vz_5, .val vz_9, .val vz_14, .val (.int (2 : Int32)), .val (.ref b110), .val (.int (Int32.ofNat ic)), .unset, .unset, .unset, .unset] [(.int (7 : Int32)), (.int p5)])) _
        refine XS.iand X125.here hx rfl (hb hby at_159) rfl ?_
        show Steps p.tables e below (T125.setTop (mkF m 160 #[.val (.int p1), .val (.int p2), .val (.int p3), .val (.int p4), .val (.int p5), .val vz_2, .val vz_5, .val vz_9, .val vz_14, .val (.int (2 : Int32)), .val (.ref b110), .val (.int (Int32.ofNat ic)), .unset, .unset, .unset, .unset] [(.int (p5 &&& (7 : Int32)))])) _
        refine XS.istore X125.here hx rfl (hb hby at_160) rfl (l' := #[.val (.int p1), .val (.int p2), .val (.int p3), .val (.int p4), .val (.int p5), .val vz_2, .val vz_5, .val vz_9, .val vz_14, .val (.int (2 : Int32)), .val (.ref b110), .val (.int (Int32.ofNat ic)), .val (.int (p5 &&& (7 : Int32))), .unset, .unset, .unset]) rfl ?_
        exact kt
      obtain ⟨T135, h135, X135, e135, E135, A135, D135, -, st135⟩ := newO X125 hx hZ hown (hw _ (List.mem_of_getElem? (i := 33) rfl)) (hw _ (List.mem_of_getElem? (i := 34) rfl)) (hw _ (List.mem_of_getElem? (i := 35) rfl)) e125 (g := (mkF m 162 #[.val (.int p1), .val (.int p2), .val (.int p3), .val (.int p4), .val (.int p5), .val vz_2, .val vz_5, .val vz_9, .val vz_14, .val (.int (2 : Int32)), .val (.ref b110), .val (.int (Int32.ofNat ic)), .val (.int (p5 &&& (7 : Int32))), .unset, .unset, .unset] [])) rfl (hb hby at_162) (by decide) (by decide)
      obtain ⟨b135, g135⟩ : ∃ z, z = h125.size := ⟨_, rfl⟩
      have ne_b110_b135 : b110 ≠ b135 := Nat.ne_of_lt (Nat.lt_of_lt_of_le V_b110_125'.lt (Nat.le_of_eq g135.symm))
      have g_b135 : n0 ≤ b135 := Nat.le_trans Z125 (Nat.le_of_eq g135.symm)
      have sz_b135 : h0.size ≤ b135 := Nat.le_trans K125.1 (Nat.le_of_eq g135.symm)
      rw [← g135] at A135 D135 st135
      have K135 : Keep h0 h135 [] := K125.ext E135
      have Z135 : n0 ≤ h135.size := Nat.le_trans Z125 E135.1
      have mo135_0 := Nat.le_trans mo125_0 E135.1
      have CR135 := CR125.trans (CHr.ext E135 CR125.1)
      have SCS_136 := SCS_126.ext E135
      have SS_vz_2_2_137 := own_Sext SS_vz_2_2_127 E135
      have SS_vz_5_5_138 := own_Sext SS_vz_5_5_128 E135
      have SS_vz_9_9_139 := own_Sext SS_vz_9_9_129 E135
      have SS_vz_14_14_140 := own_Sext SS_vz_14_14_130 E135
      have V_b110_141 := V_b110_125'.ext E135
      have F_file_b135 : Fld Z h135 b135 "com/example/pourcode/pourcode/csv/CsvRecord" "file" "Ljava/lang/String;" .null := D135 (Or.inr (hw _ (List.mem_of_getElem? (i := 44) rfl))) (ty := (.object "java/lang/String")) (by decide)
      have F_line_b135 : Fld Z h135 b135 "com/example/pourcode/pourcode/csv/CsvRecord" "line" "I" (.int (0 : Int32)) := D135 (Or.inr (hw _ (List.mem_of_getElem? (i := 46) rfl))) (ty := .int) (by decide)
      have F_values_b135 : Fld Z h135 b135 "com/example/pourcode/pourcode/csv/CsvRecord" "values" "[Ljava/lang/String;" .null := D135 (Or.inr (hw _ (List.mem_of_getElem? (i := 48) rfl))) (ty := (.array (.object "java/lang/String"))) (by decide)
      have F_size_b135 : Fld Z h135 b135 "com/example/pourcode/pourcode/csv/CsvRecord" "size" "I" (.int (0 : Int32)) := D135 (Or.inr (hw _ (List.mem_of_getElem? (i := 50) rfl))) (ty := .int) (by decide)
      have F_text_b135 : Fld Z h135 b135 "com/example/pourcode/pourcode/csv/CsvRecord" "text" "[B" .null := D135 (Or.inr (hw _ (List.mem_of_getElem? (i := 52) rfl))) (ty := (.array .byte)) (by decide)
      have pre135 : ∀ t, Steps p.tables e below (T135.setTop (mkF m 165 #[.val (.int p1), .val (.int p2), .val (.int p3), .val (.int p4), .val (.int p5), .val vz_2, .val vz_5, .val vz_9, .val vz_14, .val (.int (2 : Int32)), .val (.ref b110), .val (.int (Int32.ofNat ic)), .val (.int (p5 &&& (7 : Int32))), .unset, .unset, .unset] [(.ref b135)])) t → Steps p.tables e below (s₁.setTop (entryFrame m #[(.int p1), (.int p2), (.int p3), (.int p4), (.int p5)] maxLocals)) t := fun t kt => pre134 t (st135 _ kt)
      have pre142 : ∀ t, Steps p.tables e below (T135.setTop (mkF m 166 #[.val (.int p1), .val (.int p2), .val (.int p3), .val (.int p4), .val (.int p5), .val vz_2, .val vz_5, .val vz_9, .val vz_14, .val (.int (2 : Int32)), .val (.ref b110), .val (.int (Int32.ofNat ic)), .val (.int (p5 &&& (7 : Int32))), .unset, .unset, .unset] [(.ref b135), (.ref b135)])) t → Steps p.tables e below (s₁.setTop (entryFrame m #[(.int p1), (.int p2), (.int p3), (.int p4), (.int p5)] maxLocals)) t := by
        intro t kt
        refine pre135 t ?_
        show Steps p.tables e below (T135.setTop (mkF m 165 #[.val (.int p1), .val (.int p2), .val (.int p3), .val (.int p4), .val (.int p5), .val vz_2, .val vz_5, .val vz_9, .val vz_14, .val (.int (2 : Int32)), .val (.ref b110), .val (.int (Int32.ofNat ic)), .val (.int (p5 &&& (7 : Int32))), .unset, .unset, .unset] [(.ref b135)])) _
        refine XS.dup X135.here hx rfl (hb hby at_165) rfl rfl ?_
        exact kt
      obtain ⟨a143, T143, h143, k143, b143, kb143, X143, e143, E143, hS143, hk143, hZ, hown, A143, C143, F143, V143, la143, lb143, CQ143, Li143, sf143, st143⟩ := ldcCH (s := s) (vm0 := s.vm) (text := own_t36) X135 hx hZ hown (hw _ (List.mem_of_getElem? (i := 36) rfl)) wS e135 hS0 mo135_0 hEL own_mem36 CR135.1 (vs := (own_cs36.map fun c => c.toInt8.toInt32).map Value.int) (z := (1 : Int32)) own_ht36 (by decide) (by decide +kernel) (g := (mkF m 166 #[.val (.int p1), .val (.int p2), .val (.int p3), .val (.int p4), .val (.int p5), .val vz_2, .val vz_5, .val vz_9, .val vz_14, .val (.int (2 : Int32)), .val (.ref b110), .val (.int (Int32.ofNat ic)), .val (.int (p5 &&& (7 : Int32))), .unset, .unset, .unset] [(.ref b135), (.ref b135)])) rfl (hb hby at_166) (n := 4) (by decide +kernel) (by decide) (by decide) (by decide)
      have K143 : Keep h0 h143 [] := K135.ext E143
      have Z143 : n0 ≤ h143.size := Nat.le_trans Z135 E143.1
      have mo143_0 := Nat.le_trans mo135_0 E143.1
      have SCS_144 := SCS_136.ext E143
      have SS_vz_2_2_145 := own_Sext SS_vz_2_2_137 E143
      have SS_vz_5_5_146 := own_Sext SS_vz_5_5_138 E143
      have SS_vz_9_9_147 := own_Sext SS_vz_9_9_139 E143
      have SS_vz_14_14_148 := own_Sext SS_vz_14_14_140 E143
      have V_b110_149 := V_b110_141.ext E143
      have A135_150 := A135.ext E143
      have F_file_b135_151 := F_file_b135.ext E143
      have F_line_b135_152 := F_line_b135.ext E143
      have F_values_b135_153 := F_values_b135.ext E143
      have F_size_b135_154 := F_size_b135.ext E143
      have F_text_b135_155 := F_text_b135.ext E143
      have CR143 := CR135.trans CQ143
      have nel143_b110 := sf143 _ (Safe.arv (hZ.alike) V_b110_149 (by decide))
      have nel143_b135 := sf143 _ (Safe.exa (hZ.alike) A135_150 (by decide) (by decide))
      have pre143 : ∀ t, Steps p.tables e below (T143.setTop (mkF m 168 #[.val (.int p1), .val (.int p2), .val (.int p3), .val (.int p4), .val (.int p5), .val vz_2, .val vz_5, .val vz_9, .val vz_14, .val (.int (2 : Int32)), .val (.ref b110), .val (.int (Int32.ofNat ic)), .val (.int (p5 &&& (7 : Int32))), .unset, .unset, .unset] [(.ref a143), (.ref b135), (.ref b135)])) t → Steps p.tables e below (s₁.setTop (entryFrame m #[(.int p1), (.int p2), (.int p3), (.int p4), (.int p5)] maxLocals)) t := fun t kt => pre142 t (st143 _ kt)
      have pre156 : ∀ t, Steps p.tables e below (T143.setTop (mkF m 174 #[.val (.int p1), .val (.int p2), .val (.int p3), .val (.int p4), .val (.int p5), .val vz_2, .val vz_5, .val vz_9, .val vz_14, .val (.int (2 : Int32)), .val (.ref b110), .val (.int (Int32.ofNat ic)), .val (.int (p5 &&& (7 : Int32))), .unset, .unset, .unset] [.null, (.int (p5 &&& (7 : Int32))), (.ref b110), (.int (1 : Int32)), (.ref a143), (.ref b135), (.ref b135)])) t → Steps p.tables e below (s₁.setTop (entryFrame m #[(.int p1), (.int p2), (.int p3), (.int p4), (.int p5)] maxLocals)) t := by
        intro t kt
        refine pre143 t ?_
        show Steps p.tables e below (T143.setTop (mkF m 168 #[.val (.int p1), .val (.int p2), .val (.int p3), .val (.int p4), .val (.int p5), .val vz_2, .val vz_5, .val vz_9, .val vz_14, .val (.int (2 : Int32)), .val (.ref b110), .val (.int (Int32.ofNat ic)), .val (.int (p5 &&& (7 : Int32))), .unset, .unset, .unset] [(.ref a143), (.ref b135), (.ref b135)])) _
        refine XS.iconst X143.here hx rfl (hb hby at_168) ?_
        show Steps p.tables e below (T143.setTop (mkF m 169 #[.val (.int p1), .val (.int p2), .val (.int p3), .val (.int p4), .val (.int p5), .val vz_2, .val vz_5, .val vz_9, .val vz_14, .val (.int (2 : Int32)), .val (.ref b110), .val (.int (Int32.ofNat ic)), .val (.int (p5 &&& (7 : Int32))), .unset, .unset, .unset] [(.int (1 : Int32)), (.ref a143), (.ref b135), (.ref b135)])) _
        refine XS.aload X143.here hx rfl (hb hby at_169) rfl rfl ?_
        show Steps p.tables e below (T143.setTop (mkF m 171 #[.val (.int p1), .val (.int p2), .val (.int p3), .val (.int p4), .val (.int p5), .val vz_2, .val vz_5, .val vz_9, .val vz_14, .val (.int (2 : Int32)), .val (.ref b110), .val (.int (Int32.ofNat ic)), .val (.int (p5 &&& (7 : Int32))), .unset, .unset, .unset] [(.ref b110), (.int (1 : Int32)), (.ref a143), (.ref b135), (.ref b135)])) _
        refine XS.iload X143.here hx rfl (hb hby at_171) rfl ?_
        show Steps p.tables e below (T143.setTop (mkF m 173 #[.val (.int p1), .val (.int p2), .val (.int p3), .val (.int p4), .val (.int p5), .val vz_2, .val vz_5, .val vz_9, .val vz_14, .val (.int (2 : Int32)), .val (.ref b110), .val (.int (Int32.ofNat ic)), .val (.int (p5 &&& (7 : Int32))), .unset, .unset, .unset] [(.int (p5 &&& (7 : Int32))), (.ref b110), (.int (1 : Int32)), (.ref a143), (.ref b135), (.ref b135)])) _
        refine XS.aconstNull X143.here hx rfl (hb hby at_173) ?_
        exact kt
      obtain ⟨_, _, ⟨T157, L157, k157, n157⟩, -, X157, ⟨Lc157, hQ157, l157, y157, z157⟩, st157⟩ := X143.specialBack hx (y := (⟨"com/example/pourcode/pourcode/csv/CsvRecord", "<init>", "(Ljava/lang/String;I[Ljava/lang/String;I[B)V"⟩ : MethodName)) rfl hown (mvT hZ (hw _ (List.mem_of_getElem? (i := 39) rfl))) (mvT hZ (hw _ (List.mem_of_getElem? (i := 40) rfl))) (mvT hZ (hw _ (List.mem_of_getElem? (i := 41) rfl))) (by decide) (backOf (W := 1) (rm7 l Z a0 hw [] b135 a143 (1 : Int32) b110 (p5 &&& (7 : Int32)) h143 n0 Z143 A135_150 F_file_b135_151 F_line_b135_152 F_values_b135_153 F_size_b135_154 F_text_b135_155 g_b135) hZ (hw _ (List.mem_of_getElem? (i := 41) rfl)) (hw _ (List.mem_of_getElem? (i := 35) rfl)) (by decide) (by decide)) (g := (mkF m 174 #[.val (.int p1), .val (.int p2), .val (.int p3), .val (.int p4), .val (.int p5), .val vz_2, .val vz_5, .val vz_9, .val vz_14, .val (.int (2 : Int32)), .val (.ref b110), .val (.int (Int32.ofNat ic)), .val (.int (p5 &&& (7 : Int32))), .unset, .unset, .unset] [.null, (.int (p5 &&& (7 : Int32))), (.ref b110), (.int (1 : Int32)), (.ref a143), (.ref b135), (.ref b135)])) rfl (by rw [hml]; rfl) (Steps.refl _) (a := b135) (argsL := [(.ref a143), (.int (1 : Int32)), (.ref b110), (.int (p5 &&& (7 : Int32))), .null]) (rest := [(.ref b135)]) (lenOf pd_7 rfl) rfl (by show 2 * 0 + _ ≤ _; exact Nat.le_of_eq rfl) (hb hby at_174) (fun _ _ => ⟨rfl, e143, (by decide : 12 + 0 ≤ _), (by decide : 35 + 0 ≤ _)⟩)
      dsimp only [Pt.U, Pt.locs, Pt.cells, Pt.slots] at X157 l157 y157 z157 st157 hQ157
      subst l157 y157 z157
      obtain ⟨rfl, N157q, KC157, P157_0, P157_1, P157_2⟩ := hQ157
      have N157 := Fr.app N125 N157q
      have Z157 : n0 ≤ T157.heap.size := Nat.le_trans Z143 KC157.1
      have mo157_0 := Nat.le_trans hk143 KC157.1
      have CR157 := CR143.trans (CHr.keep KC157 (sfS (Safe.exa (hZ.alike) A135_150 (by decide) (by decide)) sf0) CR143.1)
      have K157 : Keep h0 T157.heap [] := K143.trans KC157 (allS (Or.inr sz_b135) all0)
      have SCS_158 := own_stak SCS_144 KC157 (nsS A135_150.nostat ns0)
      have SS_vz_2_2_159 := own_Skeep SS_vz_2_2_145 KC157
      have SS_vz_5_5_160 := own_Skeep SS_vz_5_5_146 KC157
      have SS_vz_9_9_161 := own_Skeep SS_vz_9_9_147 KC157
      have SS_vz_14_14_162 := own_Skeep SS_vz_14_14_148 KC157
      have V_b110_163 := V_b110_149.keep KC157 (ninS ne_b110_b135 nin0)
      have A135_164 := A135_150.keep KC157
      have A143_170 := A143.keep KC157
      have C143_171 := C143.keep KC157 (ninS (Ne.symm nel143_b135.1) nin0)
      have F143_172 := F143.keep KC157 (ninS (Ne.symm nel143_b135.1) nin0)
      have V143_173 := V143.keep KC157 (ninS (Ne.symm nel143_b135.2) nin0)
      have E_b135_157 : Exa Z T157.heap b135 "com/example/pourcode/pourcode/csv/CsvRecord" := P157_0
      have F_values_b135_157 : Fld Z T157.heap b135 "com/example/pourcode/pourcode/csv/CsvRecord" "values" "[Ljava/lang/String;" (.ref b110) := P157_1
      have F_size_b135_157 : Fld Z T157.heap b135 "com/example/pourcode/pourcode/csv/CsvRecord" "size" "I" (.int (p5 &&& (7 : Int32))) := P157_2
      have pre157 : ∀ t, Steps p.tables e below (T157.setTop (mkF m 177 #[.val (.int p1), .val (.int p2), .val (.int p3), .val (.int p4), .val (.int p5), .val vz_2, .val vz_5, .val vz_9, .val vz_14, .val (.int (2 : Int32)), .val (.ref b110), .val (.int (Int32.ofNat ic)), .val (.int (p5 &&& (7 : Int32))), .unset, .unset, .unset] [(.ref b135)])) t → Steps p.tables e below (s₁.setTop (entryFrame m #[(.int p1), (.int p2), (.int p3), (.int p4), (.int p5)] maxLocals)) t := fun t kt => pre156 t (st157.trans kt)
      have pre174 : ∀ t, Steps p.tables e below (T157.setTop (mkF m 183 #[.val (.int p1), .val (.int p2), .val (.int p3), .val (.int p4), .val (.int p5), .val vz_2, .val vz_5, .val vz_9, .val vz_14, .val (.int (2 : Int32)), .val (.ref b110), .val (.int (Int32.ofNat ic)), .val (.int (p5 &&& (7 : Int32))), .val (.ref b135), .unset, .unset] [(.int (Int32.ofNat ic)), (.ref b135)])) t → Steps p.tables e below (s₁.setTop (entryFrame m #[(.int p1), (.int p2), (.int p3), (.int p4), (.int p5)] maxLocals)) t := by
        intro t kt
        refine pre157 t ?_
        show Steps p.tables e below (T157.setTop (mkF m 177 #[.val (.int p1), .val (.int p2), .val (.int p3), .val (.int p4), .val (.int p5), .val vz_2, .val vz_5, .val vz_9, .val vz_14, .val (.int (2 : Int32)), .val (.ref b110), .val (.int (Int32.ofNat ic)), .val (.int (p5 &&& (7 : Int32))), .unset, .unset, .unset] [(.ref b135)])) _
        refine XS.astore X157.here hx rfl (hb hby at_177) rfl rfl (l' := #[.val (.int p1), .val (.int p2), .val (.int p3), .val (.int p4), .val (.int p5), .val vz_2, .val vz_5, .val vz_9, .val vz_14, .val (.int (2 : Int32)), .val (.ref b110), .val (.int (Int32.ofNat ic)), .val (.int (p5 &&& (7 : Int32))), .val (.ref b135), .unset, .unset]) rfl ?_
        show Steps p.tables e below (T157.setTop (mkF m 179 #[.val (.int p1), .val (.int p2), .val (.int p3), .val (.int p4), .val (.int p5), .val vz_2, .val vz_5, .val vz_9, .val vz_14, .val (.int (2 : Int32)), .val (.ref b110), .val (.int (Int32.ofNat ic)), .val (.int (p5 &&& (7 : Int32))), .val (.ref b135), .unset, .unset] [])) _
        refine XS.aload X157.here hx rfl (hb hby at_179) rfl rfl ?_
        show Steps p.tables e below (T157.setTop (mkF m 181 #[.val (.int p1), .val (.int p2), .val (.int p3), .val (.int p4), .val (.int p5), .val vz_2, .val vz_5, .val vz_9, .val vz_14, .val (.int (2 : Int32)), .val (.ref b110), .val (.int (Int32.ofNat ic)), .val (.int (p5 &&& (7 : Int32))), .val (.ref b135), .unset, .unset] [(.ref b135)])) _
        refine XS.iload X157.here hx rfl (hb hby at_181) rfl ?_
        exact kt
      by_cases hsz : (Int32.ofNat ic) < (p5 &&& (7 : Int32))
      · skip
        obtain ⟨cq175, kq175, q175a, q175b, q175c⟩ := isOf hZ rfl E_b135_157
        obtain ⟨_, _, ⟨T175, L175, k175, n175⟩, -, X175, ⟨Lc175, hQ175, l175, y175, z175⟩, st175⟩ := X157.virtualBack hx (y := (⟨"com/example/pourcode/pourcode/csv/CsvRecord", "get", "(I)Ljava/lang/String;"⟩ : MethodName)) (z := (⟨"com/example/pourcode/pourcode/csv/CsvRecord", "get", "(I)Ljava/lang/String;"⟩ : MethodName)) hown (mvT hZ (hw _ (List.mem_of_getElem? (i := 53) rfl))) (mvT hZ (hw _ (List.mem_of_getElem? (i := 54) rfl))) (notFace_of_selects (args := #[]) (mvT hZ (hw _ (List.mem_of_getElem? (i := 56) rfl)))) (mvT hZ (hw _ (List.mem_of_getElem? (i := 56) rfl))) (mvT hZ (hw _ (List.mem_of_getElem? (i := 55) rfl))) (by decide) (backOf (W := 0) (rm8a l Z a0 hw [] b135 (Int32.ofNat ic) b110 (p5 &&& (7 : Int32)) k110 (2 : Int32) [vz_2, vz_5] ([vz_2, vz_5].getD ic Value.null) T157.heap n0 Z157 F_values_b135_157 F_size_b135_157 V_b110_163 ((own_ix2 hic).1) ((own_ix2 hic).2) (hsz) (by rw [own_clamp4 (by omega)]) (own_getref (fun v hv => by simp only [List.mem_cons, List.not_mem_nil, or_false] at hv; rcases hv with rfl | rfl <;> assumption) ic)) hZ (hw _ (List.mem_of_getElem? (i := 57) rfl)) (hw _ (List.mem_of_getElem? (i := 35) rfl)) (by decide) (by decide)) q175a q175c (g := (mkF m 183 #[.val (.int p1), .val (.int p2), .val (.int p3), .val (.int p4), .val (.int p5), .val vz_2, .val vz_5, .val vz_9, .val vz_14, .val (.int (2 : Int32)), .val (.ref b110), .val (.int (Int32.ofNat ic)), .val (.int (p5 &&& (7 : Int32))), .val (.ref b135), .unset, .unset] [(.int (Int32.ofNat ic)), (.ref b135)])) rfl (by rw [hml]; rfl) (Steps.refl _) (argsL := [(.int (Int32.ofNat ic))]) (rest := []) (lenOf pd_8 rfl) rfl (by show 2 * 0 + _ ≤ _; exact Nat.le_of_eq rfl) (hb hby at_183) (fun _ _ => ⟨rfl, rfl, (by decide : 12 + 0 ≤ _), (by decide : 35 + 0 ≤ _)⟩)
        dsimp only [Pt.U, Pt.locs, Pt.cells, Pt.slots] at X175 l175 y175 z175 st175 hQ175
        subst l175 y175 z175
        obtain ⟨rfl, N175q, e175⟩ := hQ175
        have N175 := Fr.app N157 N175q
        have pre175 : ∀ t, Steps p.tables e below (T175.setTop (mkF m 186 #[.val (.int p1), .val (.int p2), .val (.int p3), .val (.int p4), .val (.int p5), .val vz_2, .val vz_5, .val vz_9, .val vz_14, .val (.int (2 : Int32)), .val (.ref b110), .val (.int (Int32.ofNat ic)), .val (.int (p5 &&& (7 : Int32))), .val (.ref b135), .unset, .unset] [([vz_2, vz_5].getD ic Value.null)])) t → Steps p.tables e below (s₁.setTop (entryFrame m #[(.int p1), (.int p2), (.int p3), (.int p4), (.int p5)] maxLocals)) t := fun t kt => pre174 t (st175.trans kt)
        have hgz : ([vz_2, vz_5].getD ic Value.null).isRef = true := own_getref (fun v hv => by simp only [List.mem_cons, List.not_mem_nil, or_false] at hv; rcases hv with rfl | rfl <;> assumption) ic
        have pre176 : ∀ t, Steps p.tables e below (T175.setTop (mkF m 190 #[.val (.int p1), .val (.int p2), .val (.int p3), .val (.int p4), .val (.int p5), .val vz_2, .val vz_5, .val vz_9, .val vz_14, .val (.int (2 : Int32)), .val (.ref b110), .val (.int (Int32.ofNat ic)), .val (.int (p5 &&& (7 : Int32))), .val (.ref b135), .val ([vz_2, vz_5].getD ic Value.null), .unset] [(.int (Int32.ofNat ic))])) t → Steps p.tables e below (s₁.setTop (entryFrame m #[(.int p1), (.int p2), (.int p3), (.int p4), (.int p5)] maxLocals)) t := by
          intro t kt
          refine pre175 t ?_
          show Steps p.tables e below (T175.setTop (mkF m 186 #[.val (.int p1), .val (.int p2), .val (.int p3), .val (.int p4), .val (.int p5), .val vz_2, .val vz_5, .val vz_9, .val vz_14, .val (.int (2 : Int32)), .val (.ref b110), .val (.int (Int32.ofNat ic)), .val (.int (p5 &&& (7 : Int32))), .val (.ref b135), .unset, .unset] [([vz_2, vz_5].getD ic Value.null)])) _
          refine XS.astore X175.here hx rfl (hb hby at_186) rfl hgz (l' := #[.val (.int p1), .val (.int p2), .val (.int p3), .val (.int p4), .val (.int p5), .val vz_2, .val vz_5, .val vz_9, .val vz_14, .val (.int (2 : Int32)), .val (.ref b110), .val (.int (Int32.ofNat ic)), .val (.int (p5 &&& (7 : Int32))), .val (.ref b135), .val ([vz_2, vz_5].getD ic Value.null), .unset]) (by rcases ref_cases hgz with q | ⟨_, q⟩ <;> rw [q] <;> rfl) ?_
          show Steps p.tables e below (T175.setTop (mkF m 188 #[.val (.int p1), .val (.int p2), .val (.int p3), .val (.int p4), .val (.int p5), .val vz_2, .val vz_5, .val vz_9, .val vz_14, .val (.int (2 : Int32)), .val (.ref b110), .val (.int (Int32.ofNat ic)), .val (.int (p5 &&& (7 : Int32))), .val (.ref b135), .val ([vz_2, vz_5].getD ic Value.null), .unset] [])) _
          refine XS.iload X175.here hx rfl (hb hby at_188) rfl ?_
          exact kt
        obtain ⟨v177_0, hv177_0, pre177⟩ : ∃ (v177_0 : Value), v177_0 = (if (Int32.ofNat ic) = (0 : Int32) then vz_2 else (if (Int32.ofNat ic) = (1 : Int32) then vz_5 else (if (Int32.ofNat ic) = (2 : Int32) then vz_9 else vz_14))) ∧ ∀ t, Steps p.tables e below (T175.setTop (mkF m 230 #[.val (.int p1), .val (.int p2), .val (.int p3), .val (.int p4), .val (.int p5), .val vz_2, .val vz_5, .val vz_9, .val vz_14, .val (.int (2 : Int32)), .val (.ref b110), .val (.int (Int32.ofNat ic)), .val (.int (p5 &&& (7 : Int32))), .val (.ref b135), .val ([vz_2, vz_5].getD ic Value.null), .val v177_0] [])) t → Steps p.tables e below (s₁.setTop (entryFrame m #[(.int p1), (.int p2), (.int p3), (.int p4), (.int p5)] maxLocals)) t := by
          refine ⟨_, rfl, ?_⟩
          intro t kt
          refine pre176 t ?_
          show Steps p.tables e below (T175.setTop (mkF m 190 #[.val (.int p1), .val (.int p2), .val (.int p3), .val (.int p4), .val (.int p5), .val vz_2, .val vz_5, .val vz_9, .val vz_14, .val (.int (2 : Int32)), .val (.ref b110), .val (.int (Int32.ofNat ic)), .val (.int (p5 &&& (7 : Int32))), .val (.ref b135), .val ([vz_2, vz_5].getD ic Value.null), .unset] [(.int (Int32.ofNat ic))])) _
          by_cases hc190 : (Int32.ofNat ic) = (0 : Int32)
          · (try simp only [if_pos hc190] at kt)
            refine XS.ifNo X175.here hx rfl (hb hby at_190) rfl ((if0 _ _).trans (teq hc190).2) ?_
            show Steps p.tables e below (T175.setTop (mkF m 193 #[.val (.int p1), .val (.int p2), .val (.int p3), .val (.int p4), .val (.int p5), .val vz_2, .val vz_5, .val vz_9, .val vz_14, .val (.int (2 : Int32)), .val (.ref b110), .val (.int (Int32.ofNat ic)), .val (.int (p5 &&& (7 : Int32))), .val (.ref b135), .val ([vz_2, vz_5].getD ic Value.null), .unset] [])) _
            refine XS.aload X175.here hx rfl (hb hby at_193) rfl R2_0 ?_
            show Steps p.tables e below (T175.setTop (mkF m 195 #[.val (.int p1), .val (.int p2), .val (.int p3), .val (.int p4), .val (.int p5), .val vz_2, .val vz_5, .val vz_9, .val vz_14, .val (.int (2 : Int32)), .val (.ref b110), .val (.int (Int32.ofNat ic)), .val (.int (p5 &&& (7 : Int32))), .val (.ref b135), .val ([vz_2, vz_5].getD ic Value.null), .unset] [vz_2])) _
            refine XS.astore X175.here hx rfl (hb hby at_195) rfl R2_0 (l' := #[.val (.int p1), .val (.int p2), .val (.int p3), .val (.int p4), .val (.int p5), .val vz_2, .val vz_5, .val vz_9, .val vz_14, .val (.int (2 : Int32)), .val (.ref b110), .val (.int (Int32.ofNat ic)), .val (.int (p5 &&& (7 : Int32))), .val (.ref b135), .val ([vz_2, vz_5].getD ic Value.null), .val vz_2]) (by rcases ref_cases R2_0 with q | ⟨_, q⟩ <;> rw [q] <;> rfl) ?_
            show Steps p.tables e below (T175.setTop (mkF m 197 #[.val (.int p1), .val (.int p2), .val (.int p3), .val (.int p4), .val (.int p5), .val vz_2, .val vz_5, .val vz_9, .val vz_14, .val (.int (2 : Int32)), .val (.ref b110), .val (.int (Int32.ofNat ic)), .val (.int (p5 &&& (7 : Int32))), .val (.ref b135), .val ([vz_2, vz_5].getD ic Value.null), .val vz_2] [])) _
            refine XS.goto X175.here hx rfl (pc0 := 197) (pc' := 230) rfl (hb hby at_197) (by decide) (by decide) ?_
            exact kt
          · (try simp only [if_neg hc190] at kt)
            refine XS.ifYes X175.here hx rfl (pc0 := 190) (pc' := 200) rfl (hb hby at_190) rfl ((if0 _ _).trans (feq hc190).2) (by decide) (by decide) ?_
            show Steps p.tables e below (T175.setTop (mkF m 200 #[.val (.int p1), .val (.int p2), .val (.int p3), .val (.int p4), .val (.int p5), .val vz_2, .val vz_5, .val vz_9, .val vz_14, .val (.int (2 : Int32)), .val (.ref b110), .val (.int (Int32.ofNat ic)), .val (.int (p5 &&& (7 : Int32))), .val (.ref b135), .val ([vz_2, vz_5].getD ic Value.null), .unset] [])) _
            refine XS.iload X175.here hx rfl (hb hby at_200) rfl ?_
            show Steps p.tables e below (T175.setTop (mkF m 202 #[.val (.int p1), .val (.int p2), .val (.int p3), .val (.int p4), .val (.int p5), .val vz_2, .val vz_5, .val vz_9, .val vz_14, .val (.int (2 : Int32)), .val (.ref b110), .val (.int (Int32.ofNat ic)), .val (.int (p5 &&& (7 : Int32))), .val (.ref b135), .val ([vz_2, vz_5].getD ic Value.null), .unset] [(.int (Int32.ofNat ic))])) _
            refine XS.iconst X175.here hx rfl (hb hby at_202) ?_
            show Steps p.tables e below (T175.setTop (mkF m 203 #[.val (.int p1), .val (.int p2), .val (.int p3), .val (.int p4), .val (.int p5), .val vz_2, .val vz_5, .val vz_9, .val vz_14, .val (.int (2 : Int32)), .val (.ref b110), .val (.int (Int32.ofNat ic)), .val (.int (p5 &&& (7 : Int32))), .val (.ref b135), .val ([vz_2, vz_5].getD ic Value.null), .unset] [(.int (1 : Int32)), (.int (Int32.ofNat ic))])) _
            by_cases hc203 : (Int32.ofNat ic) = (1 : Int32)
            · (try simp only [if_pos hc203] at kt)
              refine XS.icmpNo X175.here hx rfl (hb hby at_203) rfl (teq hc203).2 ?_
              show Steps p.tables e below (T175.setTop (mkF m 206 #[.val (.int p1), .val (.int p2), .val (.int p3), .val (.int p4), .val (.int p5), .val vz_2, .val vz_5, .val vz_9, .val vz_14, .val (.int (2 : Int32)), .val (.ref b110), .val (.int (Int32.ofNat ic)), .val (.int (p5 &&& (7 : Int32))), .val (.ref b135), .val ([vz_2, vz_5].getD ic Value.null), .unset] [])) _
              refine XS.aload X175.here hx rfl (hb hby at_206) rfl R5_0 ?_
              show Steps p.tables e below (T175.setTop (mkF m 208 #[.val (.int p1), .val (.int p2), .val (.int p3), .val (.int p4), .val (.int p5), .val vz_2, .val vz_5, .val vz_9, .val vz_14, .val (.int (2 : Int32)), .val (.ref b110), .val (.int (Int32.ofNat ic)), .val (.int (p5 &&& (7 : Int32))), .val (.ref b135), .val ([vz_2, vz_5].getD ic Value.null), .unset] [vz_5])) _
              refine XS.astore X175.here hx rfl (hb hby at_208) rfl R5_0 (l' := #[.val (.int p1), .val (.int p2), .val (.int p3), .val (.int p4), .val (.int p5), .val vz_2, .val vz_5, .val vz_9, .val vz_14, .val (.int (2 : Int32)), .val (.ref b110), .val (.int (Int32.ofNat ic)), .val (.int (p5 &&& (7 : Int32))), .val (.ref b135), .val ([vz_2, vz_5].getD ic Value.null), .val vz_5]) (by rcases ref_cases R5_0 with q | ⟨_, q⟩ <;> rw [q] <;> rfl) ?_
              show Steps p.tables e below (T175.setTop (mkF m 210 #[.val (.int p1), .val (.int p2), .val (.int p3), .val (.int p4), .val (.int p5), .val vz_2, .val vz_5, .val vz_9, .val vz_14, .val (.int (2 : Int32)), .val (.ref b110), .val (.int (Int32.ofNat ic)), .val (.int (p5 &&& (7 : Int32))), .val (.ref b135), .val ([vz_2, vz_5].getD ic Value.null), .val vz_5] [])) _
              refine XS.goto X175.here hx rfl (pc0 := 210) (pc' := 230) rfl (hb hby at_210) (by decide) (by decide) ?_
              exact kt
            · (try simp only [if_neg hc203] at kt)
              refine XS.icmpYes X175.here hx rfl (pc0 := 203) (pc' := 213) rfl (hb hby at_203) rfl (feq hc203).2 (by decide) (by decide) ?_
              show Steps p.tables e below (T175.setTop (mkF m 213 #[.val (.int p1), .val (.int p2), .val (.int p3), .val (.int p4), .val (.int p5), .val vz_2, .val vz_5, .val vz_9, .val vz_14, .val (.int (2 : Int32)), .val (.ref b110), .val (.int (Int32.ofNat ic)), .val (.int (p5 &&& (7 : Int32))), .val (.ref b135), .val ([vz_2, vz_5].getD ic Value.null), .unset] [])) _
              refine XS.iload X175.here hx rfl (hb hby at_213) rfl ?_
              show Steps p.tables e below (T175.setTop (mkF m 215 #[.val (.int p1), .val (.int p2), .val (.int p3), .val (.int p4), .val (.int p5), .val vz_2, .val vz_5, .val vz_9, .val vz_14, .val (.int (2 : Int32)), .val (.ref b110), .val (.int (Int32.ofNat ic)), .val (.int (p5 &&& (7 : Int32))), .val (.ref b135), .val ([vz_2, vz_5].getD ic Value.null), .unset] [(.int (Int32.ofNat ic))])) _
              refine XS.iconst X175.here hx rfl (hb hby at_215) ?_
              show Steps p.tables e below (T175.setTop (mkF m 216 #[.val (.int p1), .val (.int p2), .val (.int p3), .val (.int p4), .val (.int p5), .val vz_2, .val vz_5, .val vz_9, .val vz_14, .val (.int (2 : Int32)), .val (.ref b110), .val (.int (Int32.ofNat ic)), .val (.int (p5 &&& (7 : Int32))), .val (.ref b135), .val ([vz_2, vz_5].getD ic Value.null), .unset] [(.int (2 : Int32)), (.int (Int32.ofNat ic))])) _
              by_cases hc216 : (Int32.ofNat ic) = (2 : Int32)
              · (try simp only [if_pos hc216] at kt)
                refine XS.icmpNo X175.here hx rfl (hb hby at_216) rfl (teq hc216).2 ?_
                show Steps p.tables e below (T175.setTop (mkF m 219 #[.val (.int p1), .val (.int p2), .val (.int p3), .val (.int p4), .val (.int p5), .val vz_2, .val vz_5, .val vz_9, .val vz_14, .val (.int (2 : Int32)), .val (.ref b110), .val (.int (Int32.ofNat ic)), .val (.int (p5 &&& (7 : Int32))), .val (.ref b135), .val ([vz_2, vz_5].getD ic Value.null), .unset] [])) _
                refine XS.aload X175.here hx rfl (hb hby at_219) rfl R9_0 ?_
                show Steps p.tables e below (T175.setTop (mkF m 221 #[.val (.int p1), .val (.int p2), .val (.int p3), .val (.int p4), .val (.int p5), .val vz_2, .val vz_5, .val vz_9, .val vz_14, .val (.int (2 : Int32)), .val (.ref b110), .val (.int (Int32.ofNat ic)), .val (.int (p5 &&& (7 : Int32))), .val (.ref b135), .val ([vz_2, vz_5].getD ic Value.null), .unset] [vz_9])) _
                refine XS.astore X175.here hx rfl (hb hby at_221) rfl R9_0 (l' := #[.val (.int p1), .val (.int p2), .val (.int p3), .val (.int p4), .val (.int p5), .val vz_2, .val vz_5, .val vz_9, .val vz_14, .val (.int (2 : Int32)), .val (.ref b110), .val (.int (Int32.ofNat ic)), .val (.int (p5 &&& (7 : Int32))), .val (.ref b135), .val ([vz_2, vz_5].getD ic Value.null), .val vz_9]) (by rcases ref_cases R9_0 with q | ⟨_, q⟩ <;> rw [q] <;> rfl) ?_
                show Steps p.tables e below (T175.setTop (mkF m 223 #[.val (.int p1), .val (.int p2), .val (.int p3), .val (.int p4), .val (.int p5), .val vz_2, .val vz_5, .val vz_9, .val vz_14, .val (.int (2 : Int32)), .val (.ref b110), .val (.int (Int32.ofNat ic)), .val (.int (p5 &&& (7 : Int32))), .val (.ref b135), .val ([vz_2, vz_5].getD ic Value.null), .val vz_9] [])) _
                refine XS.goto X175.here hx rfl (pc0 := 223) (pc' := 230) rfl (hb hby at_223) (by decide) (by decide) ?_
                exact kt
              · (try simp only [if_neg hc216] at kt)
                refine XS.icmpYes X175.here hx rfl (pc0 := 216) (pc' := 226) rfl (hb hby at_216) rfl (feq hc216).2 (by decide) (by decide) ?_
                show Steps p.tables e below (T175.setTop (mkF m 226 #[.val (.int p1), .val (.int p2), .val (.int p3), .val (.int p4), .val (.int p5), .val vz_2, .val vz_5, .val vz_9, .val vz_14, .val (.int (2 : Int32)), .val (.ref b110), .val (.int (Int32.ofNat ic)), .val (.int (p5 &&& (7 : Int32))), .val (.ref b135), .val ([vz_2, vz_5].getD ic Value.null), .unset] [])) _
                refine XS.aload X175.here hx rfl (hb hby at_226) rfl R14_0 ?_
                show Steps p.tables e below (T175.setTop (mkF m 228 #[.val (.int p1), .val (.int p2), .val (.int p3), .val (.int p4), .val (.int p5), .val vz_2, .val vz_5, .val vz_9, .val vz_14, .val (.int (2 : Int32)), .val (.ref b110), .val (.int (Int32.ofNat ic)), .val (.int (p5 &&& (7 : Int32))), .val (.ref b135), .val ([vz_2, vz_5].getD ic Value.null), .unset] [vz_14])) _
                refine XS.astore X175.here hx rfl (hb hby at_228) rfl R14_0 (l' := #[.val (.int p1), .val (.int p2), .val (.int p3), .val (.int p4), .val (.int p5), .val vz_2, .val vz_5, .val vz_9, .val vz_14, .val (.int (2 : Int32)), .val (.ref b110), .val (.int (Int32.ofNat ic)), .val (.int (p5 &&& (7 : Int32))), .val (.ref b135), .val ([vz_2, vz_5].getD ic Value.null), .val vz_14]) (by rcases ref_cases R14_0 with q | ⟨_, q⟩ <;> rw [q] <;> rfl) ?_
                exact kt
        have hr_v177_0 : v177_0.isRef = true := by rw [hv177_0]; (repeat' split) <;> assumption
        have pre178 : ∀ t, Steps p.tables e below (T175.setTop (mkF m 241 #[.val (.int p1), .val (.int p2), .val (.int p3), .val (.int p4), .val (.int p5), .val vz_2, .val vz_5, .val vz_9, .val vz_14, .val (.int (2 : Int32)), .val (.ref b110), .val (.int (Int32.ofNat ic)), .val (.int (p5 &&& (7 : Int32))), .val (.ref b135), .val ([vz_2, vz_5].getD ic Value.null), .val v177_0] [v177_0, ([vz_2, vz_5].getD ic Value.null)])) t → Steps p.tables e below (s₁.setTop (entryFrame m #[(.int p1), (.int p2), (.int p3), (.int p4), (.int p5)] maxLocals)) t := by
          intro t kt
          refine pre177 t ?_
          show Steps p.tables e below (T175.setTop (mkF m 230 #[.val (.int p1), .val (.int p2), .val (.int p3), .val (.int p4), .val (.int p5), .val vz_2, .val vz_5, .val vz_9, .val vz_14, .val (.int (2 : Int32)), .val (.ref b110), .val (.int (Int32.ofNat ic)), .val (.int (p5 &&& (7 : Int32))), .val (.ref b135), .val ([vz_2, vz_5].getD ic Value.null), .val v177_0] [])) _
          refine XS.iload X175.here hx rfl (hb hby at_230) rfl ?_
          show Steps p.tables e below (T175.setTop (mkF m 232 #[.val (.int p1), .val (.int p2), .val (.int p3), .val (.int p4), .val (.int p5), .val vz_2, .val vz_5, .val vz_9, .val vz_14, .val (.int (2 : Int32)), .val (.ref b110), .val (.int (Int32.ofNat ic)), .val (.int (p5 &&& (7 : Int32))), .val (.ref b135), .val ([vz_2, vz_5].getD ic Value.null), .val v177_0] [(.int (Int32.ofNat ic))])) _
          refine XS.iload X175.here hx rfl (hb hby at_232) rfl ?_
          show Steps p.tables e below (T175.setTop (mkF m 234 #[.val (.int p1), .val (.int p2), .val (.int p3), .val (.int p4), .val (.int p5), .val vz_2, .val vz_5, .val vz_9, .val vz_14, .val (.int (2 : Int32)), .val (.ref b110), .val (.int (Int32.ofNat ic)), .val (.int (p5 &&& (7 : Int32))), .val (.ref b135), .val ([vz_2, vz_5].getD ic Value.null), .val v177_0] [(.int (p5 &&& (7 : Int32))), (.int (Int32.ofNat ic))])) _
          refine XS.icmpNo X175.here hx rfl (hb hby at_234) rfl (tlt hsz).2.1 ?_
          show Steps p.tables e below (T175.setTop (mkF m 237 #[.val (.int p1), .val (.int p2), .val (.int p3), .val (.int p4), .val (.int p5), .val vz_2, .val vz_5, .val vz_9, .val vz_14, .val (.int (2 : Int32)), .val (.ref b110), .val (.int (Int32.ofNat ic)), .val (.int (p5 &&& (7 : Int32))), .val (.ref b135), .val ([vz_2, vz_5].getD ic Value.null), .val v177_0] [])) _
          refine XS.aload X175.here hx rfl (hb hby at_237) rfl hgz ?_
          show Steps p.tables e below (T175.setTop (mkF m 239 #[.val (.int p1), .val (.int p2), .val (.int p3), .val (.int p4), .val (.int p5), .val vz_2, .val vz_5, .val vz_9, .val vz_14, .val (.int (2 : Int32)), .val (.ref b110), .val (.int (Int32.ofNat ic)), .val (.int (p5 &&& (7 : Int32))), .val (.ref b135), .val ([vz_2, vz_5].getD ic Value.null), .val v177_0] [([vz_2, vz_5].getD ic Value.null)])) _
          refine XS.aload X175.here hx rfl (hb hby at_239) rfl hr_v177_0 ?_
          exact kt
        have pre179 : ∀ t, Steps p.tables e below (T175.setTop (mkF m 244 #[.val (.int p1), .val (.int p2), .val (.int p3), .val (.int p4), .val (.int p5), .val vz_2, .val vz_5, .val vz_9, .val vz_14, .val (.int (2 : Int32)), .val (.ref b110), .val (.int (Int32.ofNat ic)), .val (.int (p5 &&& (7 : Int32))), .val (.ref b135), .val ([vz_2, vz_5].getD ic Value.null), .val v177_0] [])) t → Steps p.tables e below (s₁.setTop (entryFrame m #[(.int p1), (.int p2), (.int p3), (.int p4), (.int p5)] maxLocals)) t := fun t kt => pre178 t (by
          show Steps p.tables e below (T175.setTop (mkF m 241 #[.val (.int p1), .val (.int p2), .val (.int p3), .val (.int p4), .val (.int p5), .val vz_2, .val vz_5, .val vz_9, .val vz_14, .val (.int (2 : Int32)), .val (.ref b110), .val (.int (Int32.ofNat ic)), .val (.int (p5 &&& (7 : Int32))), .val (.ref b135), .val ([vz_2, vz_5].getD ic Value.null), .val v177_0] [v177_0, ([vz_2, vz_5].getD ic Value.null)])) _
          refine Jvm.RoadKit.acmp (g := (mkF m 241 #[.val (.int p1), .val (.int p2), .val (.int p3), .val (.int p4), .val (.int p5), .val vz_2, .val vz_5, .val vz_9, .val vz_14, .val (.int (2 : Int32)), .val (.ref b110), .val (.int (Int32.ofNat ic)), .val (.int (p5 &&& (7 : Int32))), .val (.ref b135), .val ([vz_2, vz_5].getD ic Value.null), .val v177_0] [v177_0, ([vz_2, vz_5].getD ic Value.null)])) X175 hx rfl hgz hr_v177_0 (pc0 := 241) (pc' := 244) (same := true) rfl (hb hby at_241) rfl (decide_eq_true ((own_kept2 hic).trans hv177_0.symm)) (by decide) (by decide) ?_
          exact kt)
        have pre180 : ∀ t, Steps p.tables e below (T175.setTop (mkF m 249 #[.val (.int p1), .val (.int p2), .val (.int p3), .val (.int p4), .val (.int p5), .val vz_2, .val vz_5, .val vz_9, .val vz_14, .val (.int (2 : Int32)), .val (.ref b110), .val (.int (Int32.ofNat ic)), .val (.int (p5 &&& (7 : Int32))), .val (.ref b135), .val ([vz_2, vz_5].getD ic Value.null), .val v177_0] [(.int (1 : Int32))])) t → Steps p.tables e below (s₁.setTop (entryFrame m #[(.int p1), (.int p2), (.int p3), (.int p4), (.int p5)] maxLocals)) t := by
          intro t kt
          refine pre179 t ?_
          show Steps p.tables e below (T175.setTop (mkF m 244 #[.val (.int p1), .val (.int p2), .val (.int p3), .val (.int p4), .val (.int p5), .val vz_2, .val vz_5, .val vz_9, .val vz_14, .val (.int (2 : Int32)), .val (.ref b110), .val (.int (Int32.ofNat ic)), .val (.int (p5 &&& (7 : Int32))), .val (.ref b135), .val ([vz_2, vz_5].getD ic Value.null), .val v177_0] [])) _
          refine XS.iconst X175.here hx rfl (hb hby at_244) ?_
          show Steps p.tables e below (T175.setTop (mkF m 245 #[.val (.int p1), .val (.int p2), .val (.int p3), .val (.int p4), .val (.int p5), .val vz_2, .val vz_5, .val vz_9, .val vz_14, .val (.int (2 : Int32)), .val (.ref b110), .val (.int (Int32.ofNat ic)), .val (.int (p5 &&& (7 : Int32))), .val (.ref b135), .val ([vz_2, vz_5].getD ic Value.null), .val v177_0] [(.int (1 : Int32))])) _
          refine XS.goto X175.here hx rfl (pc0 := 245) (pc' := 249) rfl (hb hby at_245) (by decide) (by decide) ?_
          exact kt
        obtain ⟨fs, hr, hrun, hended, hEnd⟩ := X175.leaveW (s := s) (vm₁ := T143.vm) hS143 (by rw [e175]; exact mo157_0) (v := some (.int (1 : Int32))) (fun h => by rw [Bd.returns] at h; cases h)
        refine ⟨_, _, pre180 _ ?_, hrun, hended, _, _, rfl, ?_, hEnd.1, hEnd.2.1, hEnd.2.2.1, hEnd.2.2.2.mono (by decide) (by decide)⟩
        · show Steps p.tables e below (T175.setTop (mkF m 249 #[.val (.int p1), .val (.int p2), .val (.int p3), .val (.int p4), .val (.int p5), .val vz_2, .val vz_5, .val vz_9, .val vz_14, .val (.int (2 : Int32)), .val (.ref b110), .val (.int (Int32.ofNat ic)), .val (.int (p5 &&& (7 : Int32))), .val (.ref b135), .val ([vz_2, vz_5].getD ic Value.null), .val v177_0] [(.int (1 : Int32))])) _
          exact retN X175 hx (t := .boolean) Bd.returns (by simp) (hb hby at_249) hr
        · show Q0 n0 _ T175.heap _
          rw [e175]
          exact ⟨rfl, N175⟩
      · skip
        obtain ⟨cq181, kq181, q181a, q181b, q181c⟩ := isOf hZ rfl E_b135_157
        obtain ⟨_, _, ⟨T181, L181, k181, n181⟩, -, X181, hSq181, hgq181, ⟨Lc181, hQ181, l181, y181, z181, CQ181⟩, st181⟩ := X157.virtualBackS (s := s.setVm T143.vm) hx (y := (⟨"com/example/pourcode/pourcode/csv/CsvRecord", "get", "(I)Ljava/lang/String;"⟩ : MethodName)) (z := (⟨"com/example/pourcode/pourcode/csv/CsvRecord", "get", "(I)Ljava/lang/String;"⟩ : MethodName)) hown (mvT hZ (hw _ (List.mem_of_getElem? (i := 53) rfl))) (mvT hZ (hw _ (List.mem_of_getElem? (i := 54) rfl))) (notFace_of_selects (args := #[]) (mvT hZ (hw _ (List.mem_of_getElem? (i := 56) rfl)))) (mvT hZ (hw _ (List.mem_of_getElem? (i := 56) rfl))) (mvT hZ (hw _ (List.mem_of_getElem? (i := 55) rfl))) (by decide) (backOfSH (s := s) (vm0 := T143.vm) (W := 0) (rm8b l Z a0 hw [] b135 (Int32.ofNat ic) b110 (p5 &&& (7 : Int32)) k110 (2 : Int32) [vz_2, vz_5] T157.heap n0 Z157 F_values_b135_157 F_size_b135_157 V_b110_163 ((own_ix2 hic).1) ((own_ix2 hic).2) (hsz)) hZ (hw _ (List.mem_of_getElem? (i := 57) rfl)) (hw _ (List.mem_of_getElem? (i := 35) rfl)) (by decide) (by decide) hEL CR157.1) q181a q181c (g := (mkF m 183 #[.val (.int p1), .val (.int p2), .val (.int p3), .val (.int p4), .val (.int p5), .val vz_2, .val vz_5, .val vz_9, .val vz_14, .val (.int (2 : Int32)), .val (.ref b110), .val (.int (Int32.ofNat ic)), .val (.int (p5 &&& (7 : Int32))), .val (.ref b135), .unset, .unset] [(.int (Int32.ofNat ic)), (.ref b135)])) rfl (by rw [hml]; rfl) (Steps.refl _) (argsL := [(.int (Int32.ofNat ic))]) (rest := []) (lenOf pd_8 rfl) rfl (by show 2 * 0 + _ ≤ _; exact Nat.le_of_eq rfl) (hb hby at_183) (fun _ _ => ⟨rfl, rfl, (by decide : 12 + 2 ≤ _), (by decide : 35 + 4 ≤ _)⟩)
        dsimp only [Pt.U, Pt.locs, Pt.cells, Pt.slots] at X181 l181 y181 z181 st181 hQ181
        subst l181 y181 z181
        have hS181 := foldS hS143 mo157_0 hSq181 hgq181
        have hown := show T181.vm.findClass _ = some m.cls from (by rw [hSq181.1.alike.findClass]; exact hown)
        have hZ := State.Warmed39.trans (t := s.setVm T143.vm) hZ hSq181.1
        have CR181 := CR157.trans CQ181
        obtain ⟨az_181, tz_181, kz_181, rfl, N181q, KC181, P181_0, P181_1, P181_2⟩ := hQ181
        have N181 := Fr.app N157 N181q
        have Z181 : n0 ≤ T181.heap.size := Nat.le_trans Z157 KC181.1
        have mo181_0 := Nat.le_trans mo157_0 KC181.1
        have K181 : Keep h0 T181.heap [] := K157.trans KC181 all0
        have SCS_182 := own_stak SCS_158 KC181 ns0
        have SS_vz_2_2_183 := own_Skeep SS_vz_2_2_159 KC181
        have SS_vz_5_5_184 := own_Skeep SS_vz_5_5_160 KC181
        have SS_vz_9_9_185 := own_Skeep SS_vz_9_9_161 KC181
        have SS_vz_14_14_186 := own_Skeep SS_vz_14_14_162 KC181
        have V_b110_187 := V_b110_163.keep KC181 nin0
        have E_b135_157_188 := E_b135_157.keep KC181
        have A143_189 := A143_170.keep KC181
        have C143_190 := C143_171.keep KC181 nin0
        have F143_191 := F143_172.keep KC181 nin0
        have V143_192 := V143_173.keep KC181 nin0
        have F_values_b135_157_193 := F_values_b135_157.keep KC181 nin0
        have F_size_b135_157_194 := F_size_b135_157.keep KC181 nin0
        have E_az_181_181 : Exa Z T181.heap az_181 "java/lang/String" := P181_0
        have F_value_az_181_181 : Fld Z T181.heap az_181 "java/lang/String" "value" "[B" (.ref tz_181) := P181_1
        have V_tz_181_181 : Arv Z T181.heap tz_181 kz_181 .byte (0 : Int32) ((own_cs66.map fun c => c.toInt8.toInt32).map Value.int) (.int (0 : Int32)) := P181_2
        have pre181 : ∀ t, Steps p.tables e below (T181.setTop (mkF m 186 #[.val (.int p1), .val (.int p2), .val (.int p3), .val (.int p4), .val (.int p5), .val vz_2, .val vz_5, .val vz_9, .val vz_14, .val (.int (2 : Int32)), .val (.ref b110), .val (.int (Int32.ofNat ic)), .val (.int (p5 &&& (7 : Int32))), .val (.ref b135), .unset, .unset] [(.ref az_181)])) t → Steps p.tables e below (s₁.setTop (entryFrame m #[(.int p1), (.int p2), (.int p3), (.int p4), (.int p5)] maxLocals)) t := fun t kt => pre174 t (st181.trans kt)
        have pre195 : ∀ t, Steps p.tables e below (T181.setTop (mkF m 190 #[.val (.int p1), .val (.int p2), .val (.int p3), .val (.int p4), .val (.int p5), .val vz_2, .val vz_5, .val vz_9, .val vz_14, .val (.int (2 : Int32)), .val (.ref b110), .val (.int (Int32.ofNat ic)), .val (.int (p5 &&& (7 : Int32))), .val (.ref b135), .val (.ref az_181), .unset] [(.int (Int32.ofNat ic))])) t → Steps p.tables e below (s₁.setTop (entryFrame m #[(.int p1), (.int p2), (.int p3), (.int p4), (.int p5)] maxLocals)) t := by
          intro t kt
          refine pre181 t ?_
          show Steps p.tables e below (T181.setTop (mkF m 186 #[.val (.int p1), .val (.int p2), .val (.int p3), .val (.int p4), .val (.int p5), .val vz_2, .val vz_5, .val vz_9, .val vz_14, .val (.int (2 : Int32)), .val (.ref b110), .val (.int (Int32.ofNat ic)), .val (.int (p5 &&& (7 : Int32))), .val (.ref b135), .unset, .unset] [(.ref az_181)])) _
          refine XS.astore X181.here hx rfl (hb hby at_186) rfl rfl (l' := #[.val (.int p1), .val (.int p2), .val (.int p3), .val (.int p4), .val (.int p5), .val vz_2, .val vz_5, .val vz_9, .val vz_14, .val (.int (2 : Int32)), .val (.ref b110), .val (.int (Int32.ofNat ic)), .val (.int (p5 &&& (7 : Int32))), .val (.ref b135), .val (.ref az_181), .unset]) rfl ?_
          show Steps p.tables e below (T181.setTop (mkF m 188 #[.val (.int p1), .val (.int p2), .val (.int p3), .val (.int p4), .val (.int p5), .val vz_2, .val vz_5, .val vz_9, .val vz_14, .val (.int (2 : Int32)), .val (.ref b110), .val (.int (Int32.ofNat ic)), .val (.int (p5 &&& (7 : Int32))), .val (.ref b135), .val (.ref az_181), .unset] [])) _
          refine XS.iload X181.here hx rfl (hb hby at_188) rfl ?_
          exact kt
        obtain ⟨v196_0, hv196_0, pre196⟩ : ∃ (v196_0 : Value), v196_0 = (if (Int32.ofNat ic) = (0 : Int32) then vz_2 else (if (Int32.ofNat ic) = (1 : Int32) then vz_5 else (if (Int32.ofNat ic) = (2 : Int32) then vz_9 else vz_14))) ∧ ∀ t, Steps p.tables e below (T181.setTop (mkF m 230 #[.val (.int p1), .val (.int p2), .val (.int p3), .val (.int p4), .val (.int p5), .val vz_2, .val vz_5, .val vz_9, .val vz_14, .val (.int (2 : Int32)), .val (.ref b110), .val (.int (Int32.ofNat ic)), .val (.int (p5 &&& (7 : Int32))), .val (.ref b135), .val (.ref az_181), .val v196_0] [])) t → Steps p.tables e below (s₁.setTop (entryFrame m #[(.int p1), (.int p2), (.int p3), (.int p4), (.int p5)] maxLocals)) t := by
          refine ⟨_, rfl, ?_⟩
          intro t kt
          refine pre195 t ?_
          show Steps p.tables e below (T181.setTop (mkF m 190 #[.val (.int p1), .val (.int p2), .val (.int p3), .val (.int p4), .val (.int p5), .val vz_2, .val vz_5, .val vz_9, .val vz_14, .val (.int (2 : Int32)), .val (.ref b110), .val (.int (Int32.ofNat ic)), .val (.int (p5 &&& (7 : Int32))), .val (.ref b135), .val (.ref az_181), .unset] [(.int (Int32.ofNat ic))])) _
          by_cases hc190 : (Int32.ofNat ic) = (0 : Int32)
          · (try simp only [if_pos hc190] at kt)
            refine XS.ifNo X181.here hx rfl (hb hby at_190) rfl ((if0 _ _).trans (teq hc190).2) ?_
            show Steps p.tables e below (T181.setTop (mkF m 193 #[.val (.int p1), .val (.int p2), .val (.int p3), .val (.int p4), .val (.int p5), .val vz_2, .val vz_5, .val vz_9, .val vz_14, .val (.int (2 : Int32)), .val (.ref b110), .val (.int (Int32.ofNat ic)), .val (.int (p5 &&& (7 : Int32))), .val (.ref b135), .val (.ref az_181), .unset] [])) _
            refine XS.aload X181.here hx rfl (hb hby at_193) rfl R2_0 ?_
            show Steps p.tables e below (T181.setTop (mkF m 195 #[.val (.int p1), .val (.int p2), .val (.int p3), .val (.int p4), .val (.int p5), .val vz_2, .val vz_5, .val vz_9, .val vz_14, .val (.int (2 : Int32)), .val (.ref b110), .val (.int (Int32.ofNat ic)), .val (.int (p5 &&& (7 : Int32))), .val (.ref b135), .val (.ref az_181), .unset] [vz_2])) _
            refine XS.astore X181.here hx rfl (hb hby at_195) rfl R2_0 (l' := #[.val (.int p1), .val (.int p2), .val (.int p3), .val (.int p4), .val (.int p5), .val vz_2, .val vz_5, .val vz_9, .val vz_14, .val (.int (2 : Int32)), .val (.ref b110), .val (.int (Int32.ofNat ic)), .val (.int (p5 &&& (7 : Int32))), .val (.ref b135), .val (.ref az_181), .val vz_2]) (by rcases ref_cases R2_0 with q | ⟨_, q⟩ <;> rw [q] <;> rfl) ?_
            show Steps p.tables e below (T181.setTop (mkF m 197 #[.val (.int p1), .val (.int p2), .val (.int p3), .val (.int p4), .val (.int p5), .val vz_2, .val vz_5, .val vz_9, .val vz_14, .val (.int (2 : Int32)), .val (.ref b110), .val (.int (Int32.ofNat ic)), .val (.int (p5 &&& (7 : Int32))), .val (.ref b135), .val (.ref az_181), .val vz_2] [])) _
            refine XS.goto X181.here hx rfl (pc0 := 197) (pc' := 230) rfl (hb hby at_197) (by decide) (by decide) ?_
            exact kt
          · (try simp only [if_neg hc190] at kt)
            refine XS.ifYes X181.here hx rfl (pc0 := 190) (pc' := 200) rfl (hb hby at_190) rfl ((if0 _ _).trans (feq hc190).2) (by decide) (by decide) ?_
            show Steps p.tables e below (T181.setTop (mkF m 200 #[.val (.int p1), .val (.int p2), .val (.int p3), .val (.int p4), .val (.int p5), .val vz_2, .val vz_5, .val vz_9, .val vz_14, .val (.int (2 : Int32)), .val (.ref b110), .val (.int (Int32.ofNat ic)), .val (.int (p5 &&& (7 : Int32))), .val (.ref b135), .val (.ref az_181), .unset] [])) _
            refine XS.iload X181.here hx rfl (hb hby at_200) rfl ?_
            show Steps p.tables e below (T181.setTop (mkF m 202 #[.val (.int p1), .val (.int p2), .val (.int p3), .val (.int p4), .val (.int p5), .val vz_2, .val vz_5, .val vz_9, .val vz_14, .val (.int (2 : Int32)), .val (.ref b110), .val (.int (Int32.ofNat ic)), .val (.int (p5 &&& (7 : Int32))), .val (.ref b135), .val (.ref az_181), .unset] [(.int (Int32.ofNat ic))])) _
            refine XS.iconst X181.here hx rfl (hb hby at_202) ?_
            show Steps p.tables e below (T181.setTop (mkF m 203 #[.val (.int p1), .val (.int p2), .val (.int p3), .val (.int p4), .val (.int p5), .val vz_2, .val vz_5, .val vz_9, .val vz_14, .val (.int (2 : Int32)), .val (.ref b110), .val (.int (Int32.ofNat ic)), .val (.int (p5 &&& (7 : Int32))), .val (.ref b135), .val (.ref az_181), .unset] [(.int (1 : Int32)), (.int (Int32.ofNat ic))])) _
            by_cases hc203 : (Int32.ofNat ic) = (1 : Int32)
            · (try simp only [if_pos hc203] at kt)
              refine XS.icmpNo X181.here hx rfl (hb hby at_203) rfl (teq hc203).2 ?_
              show Steps p.tables e below (T181.setTop (mkF m 206 #[.val (.int p1), .val (.int p2), .val (.int p3), .val (.int p4), .val (.int p5), .val vz_2, .val vz_5, .val vz_9, .val vz_14, .val (.int (2 : Int32)), .val (.ref b110), .val (.int (Int32.ofNat ic)), .val (.int (p5 &&& (7 : Int32))), .val (.ref b135), .val (.ref az_181), .unset] [])) _
              refine XS.aload X181.here hx rfl (hb hby at_206) rfl R5_0 ?_
              show Steps p.tables e below (T181.setTop (mkF m 208 #[.val (.int p1), .val (.int p2), .val (.int p3), .val (.int p4), .val (.int p5), .val vz_2, .val vz_5, .val vz_9, .val vz_14, .val (.int (2 : Int32)), .val (.ref b110), .val (.int (Int32.ofNat ic)), .val (.int (p5 &&& (7 : Int32))), .val (.ref b135), .val (.ref az_181), .unset] [vz_5])) _
              refine XS.astore X181.here hx rfl (hb hby at_208) rfl R5_0 (l' := #[.val (.int p1), .val (.int p2), .val (.int p3), .val (.int p4), .val (.int p5), .val vz_2, .val vz_5, .val vz_9, .val vz_14, .val (.int (2 : Int32)), .val (.ref b110), .val (.int (Int32.ofNat ic)), .val (.int (p5 &&& (7 : Int32))), .val (.ref b135), .val (.ref az_181), .val vz_5]) (by rcases ref_cases R5_0 with q | ⟨_, q⟩ <;> rw [q] <;> rfl) ?_
              show Steps p.tables e below (T181.setTop (mkF m 210 #[.val (.int p1), .val (.int p2), .val (.int p3), .val (.int p4), .val (.int p5), .val vz_2, .val vz_5, .val vz_9, .val vz_14, .val (.int (2 : Int32)), .val (.ref b110), .val (.int (Int32.ofNat ic)), .val (.int (p5 &&& (7 : Int32))), .val (.ref b135), .val (.ref az_181), .val vz_5] [])) _
              refine XS.goto X181.here hx rfl (pc0 := 210) (pc' := 230) rfl (hb hby at_210) (by decide) (by decide) ?_
              exact kt
            · (try simp only [if_neg hc203] at kt)
              refine XS.icmpYes X181.here hx rfl (pc0 := 203) (pc' := 213) rfl (hb hby at_203) rfl (feq hc203).2 (by decide) (by decide) ?_
              show Steps p.tables e below (T181.setTop (mkF m 213 #[.val (.int p1), .val (.int p2), .val (.int p3), .val (.int p4), .val (.int p5), .val vz_2, .val vz_5, .val vz_9, .val vz_14, .val (.int (2 : Int32)), .val (.ref b110), .val (.int (Int32.ofNat ic)), .val (.int (p5 &&& (7 : Int32))), .val (.ref b135), .val (.ref az_181), .unset] [])) _
              refine XS.iload X181.here hx rfl (hb hby at_213) rfl ?_
              show Steps p.tables e below (T181.setTop (mkF m 215 #[.val (.int p1), .val (.int p2), .val (.int p3), .val (.int p4), .val (.int p5), .val vz_2, .val vz_5, .val vz_9, .val vz_14, .val (.int (2 : Int32)), .val (.ref b110), .val (.int (Int32.ofNat ic)), .val (.int (p5 &&& (7 : Int32))), .val (.ref b135), .val (.ref az_181), .unset] [(.int (Int32.ofNat ic))])) _
              refine XS.iconst X181.here hx rfl (hb hby at_215) ?_
              show Steps p.tables e below (T181.setTop (mkF m 216 #[.val (.int p1), .val (.int p2), .val (.int p3), .val (.int p4), .val (.int p5), .val vz_2, .val vz_5, .val vz_9, .val vz_14, .val (.int (2 : Int32)), .val (.ref b110), .val (.int (Int32.ofNat ic)), .val (.int (p5 &&& (7 : Int32))), .val (.ref b135), .val (.ref az_181), .unset] [(.int (2 : Int32)), (.int (Int32.ofNat ic))])) _
              by_cases hc216 : (Int32.ofNat ic) = (2 : Int32)
              · (try simp only [if_pos hc216] at kt)
                refine XS.icmpNo X181.here hx rfl (hb hby at_216) rfl (teq hc216).2 ?_
                show Steps p.tables e below (T181.setTop (mkF m 219 #[.val (.int p1), .val (.int p2), .val (.int p3), .val (.int p4), .val (.int p5), .val vz_2, .val vz_5, .val vz_9, .val vz_14, .val (.int (2 : Int32)), .val (.ref b110), .val (.int (Int32.ofNat ic)), .val (.int (p5 &&& (7 : Int32))), .val (.ref b135), .val (.ref az_181), .unset] [])) _
                refine XS.aload X181.here hx rfl (hb hby at_219) rfl R9_0 ?_
                show Steps p.tables e below (T181.setTop (mkF m 221 #[.val (.int p1), .val (.int p2), .val (.int p3), .val (.int p4), .val (.int p5), .val vz_2, .val vz_5, .val vz_9, .val vz_14, .val (.int (2 : Int32)), .val (.ref b110), .val (.int (Int32.ofNat ic)), .val (.int (p5 &&& (7 : Int32))), .val (.ref b135), .val (.ref az_181), .unset] [vz_9])) _
                refine XS.astore X181.here hx rfl (hb hby at_221) rfl R9_0 (l' := #[.val (.int p1), .val (.int p2), .val (.int p3), .val (.int p4), .val (.int p5), .val vz_2, .val vz_5, .val vz_9, .val vz_14, .val (.int (2 : Int32)), .val (.ref b110), .val (.int (Int32.ofNat ic)), .val (.int (p5 &&& (7 : Int32))), .val (.ref b135), .val (.ref az_181), .val vz_9]) (by rcases ref_cases R9_0 with q | ⟨_, q⟩ <;> rw [q] <;> rfl) ?_
                show Steps p.tables e below (T181.setTop (mkF m 223 #[.val (.int p1), .val (.int p2), .val (.int p3), .val (.int p4), .val (.int p5), .val vz_2, .val vz_5, .val vz_9, .val vz_14, .val (.int (2 : Int32)), .val (.ref b110), .val (.int (Int32.ofNat ic)), .val (.int (p5 &&& (7 : Int32))), .val (.ref b135), .val (.ref az_181), .val vz_9] [])) _
                refine XS.goto X181.here hx rfl (pc0 := 223) (pc' := 230) rfl (hb hby at_223) (by decide) (by decide) ?_
                exact kt
              · (try simp only [if_neg hc216] at kt)
                refine XS.icmpYes X181.here hx rfl (pc0 := 216) (pc' := 226) rfl (hb hby at_216) rfl (feq hc216).2 (by decide) (by decide) ?_
                show Steps p.tables e below (T181.setTop (mkF m 226 #[.val (.int p1), .val (.int p2), .val (.int p3), .val (.int p4), .val (.int p5), .val vz_2, .val vz_5, .val vz_9, .val vz_14, .val (.int (2 : Int32)), .val (.ref b110), .val (.int (Int32.ofNat ic)), .val (.int (p5 &&& (7 : Int32))), .val (.ref b135), .val (.ref az_181), .unset] [])) _
                refine XS.aload X181.here hx rfl (hb hby at_226) rfl R14_0 ?_
                show Steps p.tables e below (T181.setTop (mkF m 228 #[.val (.int p1), .val (.int p2), .val (.int p3), .val (.int p4), .val (.int p5), .val vz_2, .val vz_5, .val vz_9, .val vz_14, .val (.int (2 : Int32)), .val (.ref b110), .val (.int (Int32.ofNat ic)), .val (.int (p5 &&& (7 : Int32))), .val (.ref b135), .val (.ref az_181), .unset] [vz_14])) _
                refine XS.astore X181.here hx rfl (hb hby at_228) rfl R14_0 (l' := #[.val (.int p1), .val (.int p2), .val (.int p3), .val (.int p4), .val (.int p5), .val vz_2, .val vz_5, .val vz_9, .val vz_14, .val (.int (2 : Int32)), .val (.ref b110), .val (.int (Int32.ofNat ic)), .val (.int (p5 &&& (7 : Int32))), .val (.ref b135), .val (.ref az_181), .val vz_14]) (by rcases ref_cases R14_0 with q | ⟨_, q⟩ <;> rw [q] <;> rfl) ?_
                exact kt
        have hr_v196_0 : v196_0.isRef = true := by rw [hv196_0]; (repeat' split) <;> assumption
        have pre197 : ∀ t, Steps p.tables e below (T181.setTop (mkF m 252 #[.val (.int p1), .val (.int p2), .val (.int p3), .val (.int p4), .val (.int p5), .val vz_2, .val vz_5, .val vz_9, .val vz_14, .val (.int (2 : Int32)), .val (.ref b110), .val (.int (Int32.ofNat ic)), .val (.int (p5 &&& (7 : Int32))), .val (.ref b135), .val (.ref az_181), .val v196_0] [(.ref az_181)])) t → Steps p.tables e below (s₁.setTop (entryFrame m #[(.int p1), (.int p2), (.int p3), (.int p4), (.int p5)] maxLocals)) t := by
          intro t kt
          refine pre196 t ?_
          show Steps p.tables e below (T181.setTop (mkF m 230 #[.val (.int p1), .val (.int p2), .val (.int p3), .val (.int p4), .val (.int p5), .val vz_2, .val vz_5, .val vz_9, .val vz_14, .val (.int (2 : Int32)), .val (.ref b110), .val (.int (Int32.ofNat ic)), .val (.int (p5 &&& (7 : Int32))), .val (.ref b135), .val (.ref az_181), .val v196_0] [])) _
          refine XS.iload X181.here hx rfl (hb hby at_230) rfl ?_
          show Steps p.tables e below (T181.setTop (mkF m 232 #[.val (.int p1), .val (.int p2), .val (.int p3), .val (.int p4), .val (.int p5), .val vz_2, .val vz_5, .val vz_9, .val vz_14, .val (.int (2 : Int32)), .val (.ref b110), .val (.int (Int32.ofNat ic)), .val (.int (p5 &&& (7 : Int32))), .val (.ref b135), .val (.ref az_181), .val v196_0] [(.int (Int32.ofNat ic))])) _
          refine XS.iload X181.here hx rfl (hb hby at_232) rfl ?_
          show Steps p.tables e below (T181.setTop (mkF m 234 #[.val (.int p1), .val (.int p2), .val (.int p3), .val (.int p4), .val (.int p5), .val vz_2, .val vz_5, .val vz_9, .val vz_14, .val (.int (2 : Int32)), .val (.ref b110), .val (.int (Int32.ofNat ic)), .val (.int (p5 &&& (7 : Int32))), .val (.ref b135), .val (.ref az_181), .val v196_0] [(.int (p5 &&& (7 : Int32))), (.int (Int32.ofNat ic))])) _
          refine XS.icmpYes X181.here hx rfl (pc0 := 234) (pc' := 250) rfl (hb hby at_234) rfl (flt hsz).2.1 (by decide) (by decide) ?_
          show Steps p.tables e below (T181.setTop (mkF m 250 #[.val (.int p1), .val (.int p2), .val (.int p3), .val (.int p4), .val (.int p5), .val vz_2, .val vz_5, .val vz_9, .val vz_14, .val (.int (2 : Int32)), .val (.ref b110), .val (.int (Int32.ofNat ic)), .val (.int (p5 &&& (7 : Int32))), .val (.ref b135), .val (.ref az_181), .val v196_0] [])) _
          refine XS.aload X181.here hx rfl (hb hby at_250) rfl rfl ?_
          exact kt
        have pre198 : ∀ t, Steps p.tables e below (T181.setTop (mkF m 255 #[.val (.int p1), .val (.int p2), .val (.int p3), .val (.int p4), .val (.int p5), .val vz_2, .val vz_5, .val vz_9, .val vz_14, .val (.int (2 : Int32)), .val (.ref b110), .val (.int (Int32.ofNat ic)), .val (.int (p5 &&& (7 : Int32))), .val (.ref b135), .val (.ref az_181), .val v196_0] [])) t → Steps p.tables e below (s₁.setTop (entryFrame m #[(.int p1), (.int p2), (.int p3), (.int p4), (.int p5)] maxLocals)) t := fun t kt => pre197 t (XS.ifnullNo X181.here hx rfl (hb hby at_252) rfl kt)
        have pre199 : ∀ t, Steps p.tables e below (T181.setTop (mkF m 257 #[.val (.int p1), .val (.int p2), .val (.int p3), .val (.int p4), .val (.int p5), .val vz_2, .val vz_5, .val vz_9, .val vz_14, .val (.int (2 : Int32)), .val (.ref b110), .val (.int (Int32.ofNat ic)), .val (.int (p5 &&& (7 : Int32))), .val (.ref b135), .val (.ref az_181), .val v196_0] [(.ref az_181)])) t → Steps p.tables e below (s₁.setTop (entryFrame m #[(.int p1), (.int p2), (.int p3), (.int p4), (.int p5)] maxLocals)) t := by
          intro t kt
          refine pre198 t ?_
          show Steps p.tables e below (T181.setTop (mkF m 255 #[.val (.int p1), .val (.int p2), .val (.int p3), .val (.int p4), .val (.int p5), .val vz_2, .val vz_5, .val vz_9, .val vz_14, .val (.int (2 : Int32)), .val (.ref b110), .val (.int (Int32.ofNat ic)), .val (.int (p5 &&& (7 : Int32))), .val (.ref b135), .val (.ref az_181), .val v196_0] [])) _
          refine XS.aload X181.here hx rfl (hb hby at_255) rfl rfl ?_
          exact kt
        obtain ⟨cq200, kq200, q200a, q200b, q200c⟩ := isOf hZ rfl E_az_181_181
        obtain ⟨_, _, ⟨T200, L200, k200, n200⟩, -, X200, ⟨Lc200, hQ200, l200, y200, z200⟩, st200⟩ := X181.virtualBack hx (y := (⟨"java/lang/String", "isEmpty", "()Z"⟩ : MethodName)) (z := (⟨"java/lang/String", "isEmpty", "()Z"⟩ : MethodName)) hown (mvT hZ (hw _ (List.mem_of_getElem? (i := 67) rfl))) (mvT hZ (hw _ (List.mem_of_getElem? (i := 68) rfl))) (notFace_of_selects (args := #[]) (mvT hZ (hw _ (List.mem_of_getElem? (i := 70) rfl)))) (mvT hZ (hw _ (List.mem_of_getElem? (i := 70) rfl))) (mvT hZ (hw _ (List.mem_of_getElem? (i := 69) rfl))) (by decide) (backOf (W := 0) (rm11 l Z a0 hw [] az_181 tz_181 kz_181 ((own_cs66.map fun c => c.toInt8.toInt32).map Value.int) T181.heap n0 Z181 F_value_az_181_181 V_tz_181_181) hZ (hw _ (List.mem_of_getElem? (i := 71) rfl)) (hw _ (List.mem_of_getElem? (i := 6) rfl)) (by decide) (by decide)) q200a q200c (g := (mkF m 257 #[.val (.int p1), .val (.int p2), .val (.int p3), .val (.int p4), .val (.int p5), .val vz_2, .val vz_5, .val vz_9, .val vz_14, .val (.int (2 : Int32)), .val (.ref b110), .val (.int (Int32.ofNat ic)), .val (.int (p5 &&& (7 : Int32))), .val (.ref b135), .val (.ref az_181), .val v196_0] [(.ref az_181)])) rfl (by rw [hml]; rfl) (Steps.refl _) (argsL := []) (rest := []) (lenOf pd_9 rfl) rfl (by show 2 * 0 + _ ≤ _; exact Nat.le_of_eq rfl) (hb hby at_257) (fun _ _ => ⟨rfl, rfl, (by decide : 14 + 0 ≤ _), (by decide : 39 + 0 ≤ _)⟩)
        dsimp only [Pt.U, Pt.locs, Pt.cells, Pt.slots] at X200 l200 y200 z200 st200 hQ200
        subst l200 y200 z200
        obtain ⟨rfl, N200q, e200⟩ := hQ200
        have N200 := Fr.app N181 N200q
        have pre200 : ∀ t, Steps p.tables e below (T200.setTop (mkF m 260 #[.val (.int p1), .val (.int p2), .val (.int p3), .val (.int p4), .val (.int p5), .val vz_2, .val vz_5, .val vz_9, .val vz_14, .val (.int (2 : Int32)), .val (.ref b110), .val (.int (Int32.ofNat ic)), .val (.int (p5 &&& (7 : Int32))), .val (.ref b135), .val (.ref az_181), .val v196_0] [(.int (1 : Int32))])) t → Steps p.tables e below (s₁.setTop (entryFrame m #[(.int p1), (.int p2), (.int p3), (.int p4), (.int p5)] maxLocals)) t := fun t kt => pre199 t (st200.trans kt)
        have pre201 : ∀ t, Steps p.tables e below (T200.setTop (mkF m 268 #[.val (.int p1), .val (.int p2), .val (.int p3), .val (.int p4), .val (.int p5), .val vz_2, .val vz_5, .val vz_9, .val vz_14, .val (.int (2 : Int32)), .val (.ref b110), .val (.int (Int32.ofNat ic)), .val (.int (p5 &&& (7 : Int32))), .val (.ref b135), .val (.ref az_181), .val v196_0] [(.int (1 : Int32))])) t → Steps p.tables e below (s₁.setTop (entryFrame m #[(.int p1), (.int p2), (.int p3), (.int p4), (.int p5)] maxLocals)) t := by
          intro t kt
          refine pre200 t ?_
          show Steps p.tables e below (T200.setTop (mkF m 260 #[.val (.int p1), .val (.int p2), .val (.int p3), .val (.int p4), .val (.int p5), .val vz_2, .val vz_5, .val vz_9, .val vz_14, .val (.int (2 : Int32)), .val (.ref b110), .val (.int (Int32.ofNat ic)), .val (.int (p5 &&& (7 : Int32))), .val (.ref b135), .val (.ref az_181), .val v196_0] [(.int (1 : Int32))])) _
          refine XS.ifNo X200.here hx rfl (hb hby at_260) rfl ((if0 _ _).trans (feq (by decide)).1) ?_
          show Steps p.tables e below (T200.setTop (mkF m 263 #[.val (.int p1), .val (.int p2), .val (.int p3), .val (.int p4), .val (.int p5), .val vz_2, .val vz_5, .val vz_9, .val vz_14, .val (.int (2 : Int32)), .val (.ref b110), .val (.int (Int32.ofNat ic)), .val (.int (p5 &&& (7 : Int32))), .val (.ref b135), .val (.ref az_181), .val v196_0] [])) _
          refine XS.iconst X200.here hx rfl (hb hby at_263) ?_
          show Steps p.tables e below (T200.setTop (mkF m 264 #[.val (.int p1), .val (.int p2), .val (.int p3), .val (.int p4), .val (.int p5), .val vz_2, .val vz_5, .val vz_9, .val vz_14, .val (.int (2 : Int32)), .val (.ref b110), .val (.int (Int32.ofNat ic)), .val (.int (p5 &&& (7 : Int32))), .val (.ref b135), .val (.ref az_181), .val v196_0] [(.int (1 : Int32))])) _
          refine XS.goto X200.here hx rfl (pc0 := 264) (pc' := 268) rfl (hb hby at_264) (by decide) (by decide) ?_
          exact kt
        obtain ⟨fs, hr, hrun, hended, hEnd⟩ := X200.leaveW (s := s) (vm₁ := T181.vm) hS181 (by rw [e200]; exact (Nat.le_refl T181.heap.size)) (v := some (.int (1 : Int32))) (fun h => by rw [Bd.returns] at h; cases h)
        refine ⟨_, _, pre201 _ ?_, hrun, hended, _, _, rfl, ?_, hEnd.1, hEnd.2.1, hEnd.2.2.1, hEnd.2.2.2.mono (by decide) (by decide)⟩
        · show Steps p.tables e below (T200.setTop (mkF m 268 #[.val (.int p1), .val (.int p2), .val (.int p3), .val (.int p4), .val (.int p5), .val vz_2, .val vz_5, .val vz_9, .val vz_14, .val (.int (2 : Int32)), .val (.ref b110), .val (.int (Int32.ofNat ic)), .val (.int (p5 &&& (7 : Int32))), .val (.ref b135), .val (.ref az_181), .val v196_0] [(.int (1 : Int32))])) _
          exact retN X200 hx (t := .boolean) Bd.returns (by simp) (hb hby at_268) hr
        · show Q0 n0 _ T200.heap _
          rw [e200]
          exact ⟨rfl, N200⟩
    · have pre202 : ∀ t, Steps p.tables e below (T14.setTop (mkF m 90 #[.val (.int p1), .val (.int p2), .val (.int p3), .val (.int p4), .val (.int p5), .val vz_2, .val vz_5, .val vz_9, .val vz_14, .val (.int ((1 : Int32) + (p3 &&& (3 : Int32)))), .unset, .unset, .unset, .unset, .unset, .unset] [])) t → Steps p.tables e below (s₁.setTop (entryFrame m #[(.int p1), (.int p2), (.int p3), (.int p4), (.int p5)] maxLocals)) t := by
        intro t kt
        refine pre107 t ?_
        show Steps p.tables e below (T14.setTop (mkF m 68 #[.val (.int p1), .val (.int p2), .val (.int p3), .val (.int p4), .val (.int p5), .val vz_2, .val vz_5, .val vz_9, .val vz_14, .val (.int ((1 : Int32) + (p3 &&& (3 : Int32)))), .unset, .unset, .unset, .unset, .unset, .unset] [(.int (2 : Int32)), (.int ((1 : Int32) + (p3 &&& (3 : Int32))))])) _
        refine XS.icmpYes X14.here hx rfl (pc0 := 68) (pc' := 90) rfl (hb hby at_68) rfl (feq hc68).2 (by decide) (by decide) ?_
        exact kt
      have pre203 : ∀ t, Steps p.tables e below (T14.setTop (mkF m 93 #[.val (.int p1), .val (.int p2), .val (.int p3), .val (.int p4), .val (.int p5), .val vz_2, .val vz_5, .val vz_9, .val vz_14, .val (.int ((1 : Int32) + (p3 &&& (3 : Int32)))), .unset, .unset, .unset, .unset, .unset, .unset] [(.int (3 : Int32)), (.int ((1 : Int32) + (p3 &&& (3 : Int32))))])) t → Steps p.tables e below (s₁.setTop (entryFrame m #[(.int p1), (.int p2), (.int p3), (.int p4), (.int p5)] maxLocals)) t := by
        intro t kt
        refine pre202 t ?_
        show Steps p.tables e below (T14.setTop (mkF m 90 #[.val (.int p1), .val (.int p2), .val (.int p3), .val (.int p4), .val (.int p5), .val vz_2, .val vz_5, .val vz_9, .val vz_14, .val (.int ((1 : Int32) + (p3 &&& (3 : Int32)))), .unset, .unset, .unset, .unset, .unset, .unset] [])) _
        refine XS.iload X14.here hx rfl (hb hby at_90) rfl ?_
        show Steps p.tables e below (T14.setTop (mkF m 92 #[.val (.int p1), .val (.int p2), .val (.int p3), .val (.int p4), .val (.int p5), .val vz_2, .val vz_5, .val vz_9, .val vz_14, .val (.int ((1 : Int32) + (p3 &&& (3 : Int32)))), .unset, .unset, .unset, .unset, .unset, .unset] [(.int ((1 : Int32) + (p3 &&& (3 : Int32))))])) _
        refine XS.iconst X14.here hx rfl (hb hby at_92) ?_
        exact kt
      by_cases hc93 : ((1 : Int32) + (p3 &&& (3 : Int32))) = (3 : Int32)
      · have pre204 : ∀ t, Steps p.tables e below (T14.setTop (mkF m 96 #[.val (.int p1), .val (.int p2), .val (.int p3), .val (.int p4), .val (.int p5), .val vz_2, .val vz_5, .val vz_9, .val vz_14, .val (.int ((1 : Int32) + (p3 &&& (3 : Int32)))), .unset, .unset, .unset, .unset, .unset, .unset] [])) t → Steps p.tables e below (s₁.setTop (entryFrame m #[(.int p1), (.int p2), (.int p3), (.int p4), (.int p5)] maxLocals)) t := by
          intro t kt
          refine pre203 t ?_
          show Steps p.tables e below (T14.setTop (mkF m 93 #[.val (.int p1), .val (.int p2), .val (.int p3), .val (.int p4), .val (.int p5), .val vz_2, .val vz_5, .val vz_9, .val vz_14, .val (.int ((1 : Int32) + (p3 &&& (3 : Int32)))), .unset, .unset, .unset, .unset, .unset, .unset] [(.int (3 : Int32)), (.int ((1 : Int32) + (p3 &&& (3 : Int32))))])) _
          refine XS.icmpNo X14.here hx rfl (hb hby at_93) rfl (teq hc93).2 ?_
          exact kt
        have pre205 : ∀ t, Steps p.tables e below (T14.setTop (mkF m 97 #[.val (.int p1), .val (.int p2), .val (.int p3), .val (.int p4), .val (.int p5), .val vz_2, .val vz_5, .val vz_9, .val vz_14, .val (.int ((1 : Int32) + (p3 &&& (3 : Int32)))), .unset, .unset, .unset, .unset, .unset, .unset] [(.int (3 : Int32))])) t → Steps p.tables e below (s₁.setTop (entryFrame m #[(.int p1), (.int p2), (.int p3), (.int p4), (.int p5)] maxLocals)) t := by
          intro t kt
          refine pre204 t ?_
          show Steps p.tables e below (T14.setTop (mkF m 96 #[.val (.int p1), .val (.int p2), .val (.int p3), .val (.int p4), .val (.int p5), .val vz_2, .val vz_5, .val vz_9, .val vz_14, .val (.int ((1 : Int32) + (p3 &&& (3 : Int32)))), .unset, .unset, .unset, .unset, .unset, .unset] [])) _
          refine XS.iconst X14.here hx rfl (hb hby at_96) ?_
          exact kt
        obtain ⟨T206, h206, k206, X206, e206, E206, A206, O206, st206⟩ := newR X14 hx hZ hown (hw _ (List.mem_of_getElem? (i := 30) rfl)) (hw _ (List.mem_of_getElem? (i := 31) rfl)) rfl (g := (mkF m 97 #[.val (.int p1), .val (.int p2), .val (.int p3), .val (.int p4), .val (.int p5), .val vz_2, .val vz_5, .val vz_9, .val vz_14, .val (.int ((1 : Int32) + (p3 &&& (3 : Int32)))), .unset, .unset, .unset, .unset, .unset, .unset] [(.int (3 : Int32))])) rfl (hb hby at_97) rfl (by decide) (cap := 3) (by decide) (by decide) (by decide) (by decide)
        obtain ⟨b206, g206⟩ : ∃ z, z = T14.heap.size := ⟨_, rfl⟩
        have g_b206 : n0 ≤ b206 := Nat.le_trans Z14 (Nat.le_of_eq g206.symm)
        have sz_b206 : h0.size ≤ b206 := Nat.le_trans K14.1 (Nat.le_of_eq g206.symm)
        rw [← g206] at A206 st206
        have K206 : Keep h0 h206 [] := K14.ext E206
        have Z206 : n0 ≤ h206.size := Nat.le_trans Z14 E206.1
        have mo206_0 := Nat.le_trans mo14_0 E206.1
        have CR206 := CR14.trans (CHr.ext E206 CR14.1)
        have SCS_207 := SCS_15.ext E206
        have SS_vz_2_2_208 := own_Sext SS_vz_2_2_16 E206
        have SS_vz_5_5_209 := own_Sext SS_vz_5_5_17 E206
        have SS_vz_9_9_210 := own_Sext SS_vz_9_9_18 E206
        have SS_vz_14_14_211 := own_Sext SS_vz_14_14 E206
        have V_b206 : Arv Z h206 b206 k206 (.object "java/lang/String") (3 : Int32) [.null, .null, .null] .null := (Arv.new A206 (by decide)).pad (pad_rep [] .null 3)
        have pre206 : ∀ t, Steps p.tables e below (T206.setTop (mkF m 100 #[.val (.int p1), .val (.int p2), .val (.int p3), .val (.int p4), .val (.int p5), .val vz_2, .val vz_5, .val vz_9, .val vz_14, .val (.int ((1 : Int32) + (p3 &&& (3 : Int32)))), .unset, .unset, .unset, .unset, .unset, .unset] [(.ref b206)])) t → Steps p.tables e below (s₁.setTop (entryFrame m #[(.int p1), (.int p2), (.int p3), (.int p4), (.int p5)] maxLocals)) t := fun t kt => pre205 t (st206 _ kt)
        have pre212 : ∀ t, Steps p.tables e below (T206.setTop (mkF m 104 #[.val (.int p1), .val (.int p2), .val (.int p3), .val (.int p4), .val (.int p5), .val vz_2, .val vz_5, .val vz_9, .val vz_14, .val (.int ((1 : Int32) + (p3 &&& (3 : Int32)))), .unset, .unset, .unset, .unset, .unset, .unset] [vz_2, (.int (0 : Int32)), (.ref b206), (.ref b206)])) t → Steps p.tables e below (s₁.setTop (entryFrame m #[(.int p1), (.int p2), (.int p3), (.int p4), (.int p5)] maxLocals)) t := by
          intro t kt
          refine pre206 t ?_
          show Steps p.tables e below (T206.setTop (mkF m 100 #[.val (.int p1), .val (.int p2), .val (.int p3), .val (.int p4), .val (.int p5), .val vz_2, .val vz_5, .val vz_9, .val vz_14, .val (.int ((1 : Int32) + (p3 &&& (3 : Int32)))), .unset, .unset, .unset, .unset, .unset, .unset] [(.ref b206)])) _
          refine XS.dup X206.here hx rfl (hb hby at_100) rfl rfl ?_
          show Steps p.tables e below (T206.setTop (mkF m 101 #[.val (.int p1), .val (.int p2), .val (.int p3), .val (.int p4), .val (.int p5), .val vz_2, .val vz_5, .val vz_9, .val vz_14, .val (.int ((1 : Int32) + (p3 &&& (3 : Int32)))), .unset, .unset, .unset, .unset, .unset, .unset] [(.ref b206), (.ref b206)])) _
          refine XS.iconst X206.here hx rfl (hb hby at_101) ?_
          show Steps p.tables e below (T206.setTop (mkF m 102 #[.val (.int p1), .val (.int p2), .val (.int p3), .val (.int p4), .val (.int p5), .val vz_2, .val vz_5, .val vz_9, .val vz_14, .val (.int ((1 : Int32) + (p3 &&& (3 : Int32)))), .unset, .unset, .unset, .unset, .unset, .unset] [(.int (0 : Int32)), (.ref b206), (.ref b206)])) _
          refine XS.aload X206.here hx rfl (hb hby at_102) rfl R2_0 ?_
          exact kt
        obtain ⟨cl213, Ar213, q213, S213, M213, H213, G213⟩ := (id V_b206)
        have hin213 : ¬ ((0 : Int32) < 0 ∨ cl213.slots.size ≤ ((0 : Int32)).toNatClampNeg) := inb_of S213 ⟨by decide, by decide⟩
        obtain ⟨T213, h213, X213, e213, W213, st213⟩ := stR X206 hx hZ e206 Ar213 (j := (0 : Int32)) hin213 rfl (own_sto Ar213 q213 O206 SS_vz_2_2_208) (g := (mkF m 104 #[.val (.int p1), .val (.int p2), .val (.int p3), .val (.int p4), .val (.int p5), .val vz_2, .val vz_5, .val vz_9, .val vz_14, .val (.int ((1 : Int32) + (p3 &&& (3 : Int32)))), .unset, .unset, .unset, .unset, .unset, .unset] [vz_2, (.int (0 : Int32)), (.ref b206), (.ref b206)])) rfl rfl (hb hby at_104)
        have V_b206_213 := Arv.set Ar213 q213 S213 M213 H213 G213 (own_fits R2_0) W213 0 rfl (Nat.le_of_ble_eq_true rfl)
        have N213 := Fr.snoc X213 N14 g_b206
        have K213 : Keep h0 h213 [] := K206.wr W213 (Or.inr sz_b206)
        have Z213 : n0 ≤ h213.size := Nat.le_trans Z206 (Keep.of_wr W213).1
        have mo213_0 := Nat.le_trans mo206_0 (Keep.of_wr W213).1
        have CR213 := CR206.trans (CHr.wr W213 (Safe.arv (hZ.alike) V_b206 (by decide)) CR206.1)
        have SCS_214 := SCS_207.wr W213
        have SS_vz_2_2_215 := own_Swr SS_vz_2_2_208 W213
        have SS_vz_5_5_216 := own_Swr SS_vz_5_5_209 W213
        have SS_vz_9_9_217 := own_Swr SS_vz_9_9_210 W213
        have SS_vz_14_14_218 := own_Swr SS_vz_14_14_211 W213
        have V_b206_213' : Arv Z h213 b206 k206 (.object "java/lang/String") (3 : Int32) [vz_2, .null, .null] .null := V_b206_213
        have pre213 : ∀ t, Steps p.tables e below (T213.setTop (mkF m 105 #[.val (.int p1), .val (.int p2), .val (.int p3), .val (.int p4), .val (.int p5), .val vz_2, .val vz_5, .val vz_9, .val vz_14, .val (.int ((1 : Int32) + (p3 &&& (3 : Int32)))), .unset, .unset, .unset, .unset, .unset, .unset] [(.ref b206)])) t → Steps p.tables e below (s₁.setTop (entryFrame m #[(.int p1), (.int p2), (.int p3), (.int p4), (.int p5)] maxLocals)) t := fun t kt => pre212 t (st213 _ kt)
        have pre220 : ∀ t, Steps p.tables e below (T213.setTop (mkF m 109 #[.val (.int p1), .val (.int p2), .val (.int p3), .val (.int p4), .val (.int p5), .val vz_2, .val vz_5, .val vz_9, .val vz_14, .val (.int ((1 : Int32) + (p3 &&& (3 : Int32)))), .unset, .unset, .unset, .unset, .unset, .unset] [vz_5, (.int (1 : Int32)), (.ref b206), (.ref b206)])) t → Steps p.tables e below (s₁.setTop (entryFrame m #[(.int p1), (.int p2), (.int p3), (.int p4), (.int p5)] maxLocals)) t := by
          intro t kt
          refine pre213 t ?_
          show Steps p.tables e below (T213.setTop (mkF m 105 #[.val (.int p1), .val (.int p2), .val (.int p3), .val (.int p4), .val (.int p5), .val vz_2, .val vz_5, .val vz_9, .val vz_14, .val (.int ((1 : Int32) + (p3 &&& (3 : Int32)))), .unset, .unset, .unset, .unset, .unset, .unset] [(.ref b206)])) _
          refine XS.dup X213.here hx rfl (hb hby at_105) rfl rfl ?_
          show Steps p.tables e below (T213.setTop (mkF m 106 #[.val (.int p1), .val (.int p2), .val (.int p3), .val (.int p4), .val (.int p5), .val vz_2, .val vz_5, .val vz_9, .val vz_14, .val (.int ((1 : Int32) + (p3 &&& (3 : Int32)))), .unset, .unset, .unset, .unset, .unset, .unset] [(.ref b206), (.ref b206)])) _
          refine XS.iconst X213.here hx rfl (hb hby at_106) ?_
          show Steps p.tables e below (T213.setTop (mkF m 107 #[.val (.int p1), .val (.int p2), .val (.int p3), .val (.int p4), .val (.int p5), .val vz_2, .val vz_5, .val vz_9, .val vz_14, .val (.int ((1 : Int32) + (p3 &&& (3 : Int32)))), .unset, .unset, .unset, .unset, .unset, .unset] [(.int (1 : Int32)), (.ref b206), (.ref b206)])) _
          refine XS.aload X213.here hx rfl (hb hby at_107) rfl R5_0 ?_
          exact kt
        obtain ⟨cl221, Ar221, q221, S221, M221, H221, G221⟩ := (id V_b206_213')
        have hin221 : ¬ ((1 : Int32) < 0 ∨ cl221.slots.size ≤ ((1 : Int32)).toNatClampNeg) := inb_of S221 ⟨by decide, by decide⟩
        obtain ⟨T221, h221, X221, e221, W221, st221⟩ := stR X213 hx hZ e213 Ar221 (j := (1 : Int32)) hin221 rfl (own_sto Ar221 q221 O206 SS_vz_5_5_216) (g := (mkF m 109 #[.val (.int p1), .val (.int p2), .val (.int p3), .val (.int p4), .val (.int p5), .val vz_2, .val vz_5, .val vz_9, .val vz_14, .val (.int ((1 : Int32) + (p3 &&& (3 : Int32)))), .unset, .unset, .unset, .unset, .unset, .unset] [vz_5, (.int (1 : Int32)), (.ref b206), (.ref b206)])) rfl rfl (hb hby at_109)
        have V_b206_221 := Arv.set Ar221 q221 S221 M221 H221 G221 (own_fits R5_0) W221 1 rfl (Nat.le_of_ble_eq_true rfl)
        have N221 := Fr.snoc X221 N213 g_b206
        have K221 : Keep h0 h221 [] := K213.wr W221 (Or.inr sz_b206)
        have Z221 : n0 ≤ h221.size := Nat.le_trans Z213 (Keep.of_wr W221).1
        have mo221_0 := Nat.le_trans mo213_0 (Keep.of_wr W221).1
        have CR221 := CR213.trans (CHr.wr W221 (Safe.arv (hZ.alike) V_b206_213' (by decide)) CR213.1)
        have SCS_222 := SCS_214.wr W221
        have SS_vz_2_2_223 := own_Swr SS_vz_2_2_215 W221
        have SS_vz_5_5_224 := own_Swr SS_vz_5_5_216 W221
        have SS_vz_9_9_225 := own_Swr SS_vz_9_9_217 W221
        have SS_vz_14_14_226 := own_Swr SS_vz_14_14_218 W221
        have V_b206_221' : Arv Z h221 b206 k206 (.object "java/lang/String") (3 : Int32) [vz_2, vz_5, .null] .null := V_b206_221
        have pre221 : ∀ t, Steps p.tables e below (T221.setTop (mkF m 110 #[.val (.int p1), .val (.int p2), .val (.int p3), .val (.int p4), .val (.int p5), .val vz_2, .val vz_5, .val vz_9, .val vz_14, .val (.int ((1 : Int32) + (p3 &&& (3 : Int32)))), .unset, .unset, .unset, .unset, .unset, .unset] [(.ref b206)])) t → Steps p.tables e below (s₁.setTop (entryFrame m #[(.int p1), (.int p2), (.int p3), (.int p4), (.int p5)] maxLocals)) t := fun t kt => pre220 t (st221 _ kt)
        have pre228 : ∀ t, Steps p.tables e below (T221.setTop (mkF m 114 #[.val (.int p1), .val (.int p2), .val (.int p3), .val (.int p4), .val (.int p5), .val vz_2, .val vz_5, .val vz_9, .val vz_14, .val (.int ((1 : Int32) + (p3 &&& (3 : Int32)))), .unset, .unset, .unset, .unset, .unset, .unset] [vz_9, (.int (2 : Int32)), (.ref b206), (.ref b206)])) t → Steps p.tables e below (s₁.setTop (entryFrame m #[(.int p1), (.int p2), (.int p3), (.int p4), (.int p5)] maxLocals)) t := by
          intro t kt
          refine pre221 t ?_
          show Steps p.tables e below (T221.setTop (mkF m 110 #[.val (.int p1), .val (.int p2), .val (.int p3), .val (.int p4), .val (.int p5), .val vz_2, .val vz_5, .val vz_9, .val vz_14, .val (.int ((1 : Int32) + (p3 &&& (3 : Int32)))), .unset, .unset, .unset, .unset, .unset, .unset] [(.ref b206)])) _
          refine XS.dup X221.here hx rfl (hb hby at_110) rfl rfl ?_
          show Steps p.tables e below (T221.setTop (mkF m 111 #[.val (.int p1), .val (.int p2), .val (.int p3), .val (.int p4), .val (.int p5), .val vz_2, .val vz_5, .val vz_9, .val vz_14, .val (.int ((1 : Int32) + (p3 &&& (3 : Int32)))), .unset, .unset, .unset, .unset, .unset, .unset] [(.ref b206), (.ref b206)])) _
          refine XS.iconst X221.here hx rfl (hb hby at_111) ?_
          show Steps p.tables e below (T221.setTop (mkF m 112 #[.val (.int p1), .val (.int p2), .val (.int p3), .val (.int p4), .val (.int p5), .val vz_2, .val vz_5, .val vz_9, .val vz_14, .val (.int ((1 : Int32) + (p3 &&& (3 : Int32)))), .unset, .unset, .unset, .unset, .unset, .unset] [(.int (2 : Int32)), (.ref b206), (.ref b206)])) _
          refine XS.aload X221.here hx rfl (hb hby at_112) rfl R9_0 ?_
          exact kt
        obtain ⟨cl229, Ar229, q229, S229, M229, H229, G229⟩ := (id V_b206_221')
        have hin229 : ¬ ((2 : Int32) < 0 ∨ cl229.slots.size ≤ ((2 : Int32)).toNatClampNeg) := inb_of S229 ⟨by decide, by decide⟩
        obtain ⟨T229, h229, X229, e229, W229, st229⟩ := stR X221 hx hZ e221 Ar229 (j := (2 : Int32)) hin229 rfl (own_sto Ar229 q229 O206 SS_vz_9_9_225) (g := (mkF m 114 #[.val (.int p1), .val (.int p2), .val (.int p3), .val (.int p4), .val (.int p5), .val vz_2, .val vz_5, .val vz_9, .val vz_14, .val (.int ((1 : Int32) + (p3 &&& (3 : Int32)))), .unset, .unset, .unset, .unset, .unset, .unset] [vz_9, (.int (2 : Int32)), (.ref b206), (.ref b206)])) rfl rfl (hb hby at_114)
        have V_b206_229 := Arv.set Ar229 q229 S229 M229 H229 G229 (own_fits R9_0) W229 2 rfl (Nat.le_of_ble_eq_true rfl)
        have N229 := Fr.snoc X229 N221 g_b206
        have K229 : Keep h0 h229 [] := K221.wr W229 (Or.inr sz_b206)
        have Z229 : n0 ≤ h229.size := Nat.le_trans Z221 (Keep.of_wr W229).1
        have mo229_0 := Nat.le_trans mo221_0 (Keep.of_wr W229).1
        have CR229 := CR221.trans (CHr.wr W229 (Safe.arv (hZ.alike) V_b206_221' (by decide)) CR221.1)
        have SCS_230 := SCS_222.wr W229
        have SS_vz_2_2_231 := own_Swr SS_vz_2_2_223 W229
        have SS_vz_5_5_232 := own_Swr SS_vz_5_5_224 W229
        have SS_vz_9_9_233 := own_Swr SS_vz_9_9_225 W229
        have SS_vz_14_14_234 := own_Swr SS_vz_14_14_226 W229
        have V_b206_229' : Arv Z h229 b206 k206 (.object "java/lang/String") (3 : Int32) [vz_2, vz_5, vz_9] .null := V_b206_229
        have pre229 : ∀ t, Steps p.tables e below (T229.setTop (mkF m 115 #[.val (.int p1), .val (.int p2), .val (.int p3), .val (.int p4), .val (.int p5), .val vz_2, .val vz_5, .val vz_9, .val vz_14, .val (.int ((1 : Int32) + (p3 &&& (3 : Int32)))), .unset, .unset, .unset, .unset, .unset, .unset] [(.ref b206)])) t → Steps p.tables e below (s₁.setTop (entryFrame m #[(.int p1), (.int p2), (.int p3), (.int p4), (.int p5)] maxLocals)) t := fun t kt => pre228 t (st229 _ kt)
        have pre236 : ∀ t, Steps p.tables e below (T229.setTop (mkF m 146 #[.val (.int p1), .val (.int p2), .val (.int p3), .val (.int p4), .val (.int p5), .val vz_2, .val vz_5, .val vz_9, .val vz_14, .val (.int ((1 : Int32) + (p3 &&& (3 : Int32)))), .val (.ref b206), .unset, .unset, .unset, .unset, .unset] [])) t → Steps p.tables e below (s₁.setTop (entryFrame m #[(.int p1), (.int p2), (.int p3), (.int p4), (.int p5)] maxLocals)) t := by
          intro t kt
          refine pre229 t ?_
          show Steps p.tables e below (T229.setTop (mkF m 115 #[.val (.int p1), .val (.int p2), .val (.int p3), .val (.int p4), .val (.int p5), .val vz_2, .val vz_5, .val vz_9, .val vz_14, .val (.int ((1 : Int32) + (p3 &&& (3 : Int32)))), .unset, .unset, .unset, .unset, .unset, .unset] [(.ref b206)])) _
          refine XS.astore X229.here hx rfl (hb hby at_115) rfl rfl (l' := #[.val (.int p1), .val (.int p2), .val (.int p3), .val (.int p4), .val (.int p5), .val vz_2, .val vz_5, .val vz_9, .val vz_14, .val (.int ((1 : Int32) + (p3 &&& (3 : Int32)))), .val (.ref b206), .unset, .unset, .unset, .unset, .unset]) rfl ?_
          show Steps p.tables e below (T229.setTop (mkF m 117 #[.val (.int p1), .val (.int p2), .val (.int p3), .val (.int p4), .val (.int p5), .val vz_2, .val vz_5, .val vz_9, .val vz_14, .val (.int ((1 : Int32) + (p3 &&& (3 : Int32)))), .val (.ref b206), .unset, .unset, .unset, .unset, .unset] [])) _
          refine XS.goto X229.here hx rfl (pc0 := 117) (pc' := 146) rfl (hb hby at_117) (by decide) (by decide) ?_
          exact kt
        rw [hc93] at pre236
        have pre237 : ∀ t, Steps p.tables e below (T229.setTop (mkF m 155 #[.val (.int p1), .val (.int p2), .val (.int p3), .val (.int p4), .val (.int p5), .val vz_2, .val vz_5, .val vz_9, .val vz_14, .val (.int (3 : Int32)), .val (.ref b206), .val (.int ((p4 &&& (2147483647 : Int32)) % (3 : Int32))), .unset, .unset, .unset, .unset] [])) t → Steps p.tables e below (s₁.setTop (entryFrame m #[(.int p1), (.int p2), (.int p3), (.int p4), (.int p5)] maxLocals)) t := by
          intro t kt
          refine pre236 t ?_
          show Steps p.tables e below (T229.setTop (mkF m 146 #[.val (.int p1), .val (.int p2), .val (.int p3), .val (.int p4), .val (.int p5), .val vz_2, .val vz_5, .val vz_9, .val vz_14, .val (.int (3 : Int32)), .val (.ref b206), .unset, .unset, .unset, .unset, .unset] [])) _
          refine XS.iloadN X229.here hx rfl (hb hby at_146) rfl ?_
          show Steps p.tables e below (T229.setTop (mkF m 147 #[.val (.int p1), .val (.int p2), .val (.int p3), .val (.int p4), .val (.int p5), .val vz_2, .val vz_5, .val vz_9, .val vz_14, .val (.int (3 : Int32)), .val (.ref b206), .unset, .unset, .unset, .unset, .unset] [(.int p4)])) _
          refine X229.ldcInt hx hown (mvT hZ (hw _ (List.mem_of_getElem? (i := 32) rfl))) (g := (mkF m 147 #[.val (.int p1), .val (.int p2), .val (.int p3), .val (.int p4), .val (.int p5), .val vz_2, .val vz_5, .val vz_9, .val vz_14, .val (.int (3 : Int32)), .val (.ref b206), .unset, .unset, .unset, .unset, .unset] [(.int p4)])) rfl (hb hby at_147) _ ?_
          show Steps p.tables e below (T229.setTop (mkF m 149 #[.val (.int p1), .val (.int p2), .val (.int p3), .val (.int p4), .val (.int p5), .val vz_2, .val vz_5, .val vz_9, .val vz_14, .val (.int (3 : Int32)), .val (.ref b206), .unset, .unset, .unset, .unset, .unset] [(.int (2147483647 : Int32)), (.int p4)])) _
          refine XS.iand X229.here hx rfl (hb hby at_149) rfl ?_
          show Steps p.tables e below (T229.setTop (mkF m 150 #[.val (.int p1), .val (.int p2), .val (.int p3), .val (.int p4), .val (.int p5), .val vz_2, .val vz_5, .val vz_9, .val vz_14, .val (.int (3 : Int32)), .val (.ref b206), .unset, .unset, .unset, .unset, .unset] [(.int (p4 &&& (2147483647 : Int32)))])) _
          refine XS.iload X229.here hx rfl (hb hby at_150) rfl ?_
          show Steps p.tables e below (T229.setTop (mkF m 152 #[.val (.int p1), .val (.int p2), .val (.int p3), .val (.int p4), .val (.int p5), .val vz_2, .val vz_5, .val vz_9, .val vz_14, .val (.int (3 : Int32)), .val (.ref b206), .unset, .unset, .unset, .unset, .unset] [(.int (3 : Int32)), (.int (p4 &&& (2147483647 : Int32)))])) _
          refine iremM X229 hx rfl (hb hby at_152) rfl (by decide) ?_
          show Steps p.tables e below (T229.setTop (mkF m 153 #[.val (.int p1), .val (.int p2), .val (.int p3), .val (.int p4), .val (.int p5), .val vz_2, .val vz_5, .val vz_9, .val vz_14, .val (.int (3 : Int32)), .val (.ref b206), .unset, .unset, .unset, .unset, .unset] [(.int ((p4 &&& (2147483647 : Int32)) % (3 : Int32)))])) _
          refine XS.istore X229.here hx rfl (hb hby at_153) rfl (l' := #[.val (.int p1), .val (.int p2), .val (.int p3), .val (.int p4), .val (.int p5), .val vz_2, .val vz_5, .val vz_9, .val vz_14, .val (.int (3 : Int32)), .val (.ref b206), .val (.int ((p4 &&& (2147483647 : Int32)) % (3 : Int32))), .unset, .unset, .unset, .unset]) rfl ?_
          exact kt
        obtain ⟨ic, hic, eic⟩ := own_col3 p4
        rw [eic] at pre237
        have pre238 : ∀ t, Steps p.tables e below (T229.setTop (mkF m 162 #[.val (.int p1), .val (.int p2), .val (.int p3), .val (.int p4), .val (.int p5), .val vz_2, .val vz_5, .val vz_9, .val vz_14, .val (.int (3 : Int32)), .val (.ref b206), .val (.int (Int32.ofNat ic)), .val (.int (p5 &&& (7 : Int32))), .unset, .unset, .unset] [])) t → Steps p.tables e below (s₁.setTop (entryFrame m #[(.int p1), (.int p2), (.int p3), (.int p4), (.int p5)] maxLocals)) t := by
          intro t kt
          refine pre237 t ?_
          show Steps p.tables e below (T229.setTop (mkF m 155 #[.val (.int p1), .val (.int p2), .val (.int p3), .val (.int p4), .val (.int p5), .val vz_2, .val vz_5, .val vz_9, .val vz_14, .val (.int (3 : Int32)), .val (.ref b206), .val (.int (Int32.ofNat ic)), .unset, .unset, .unset, .unset] [])) _
          refine XS.iload X229.here hx rfl (hb hby at_155) rfl ?_
          show Steps p.tables e below (T229.setTop (mkF m 157 #[.val (.int p1), .val (.int p2), .val (.int p3), .val (.int p4), .val (.int p5), .val vz_2, .val vz_5, .val vz_9, .val vz_14, .val (.int (3 : Int32)), .val (.ref b206), .val (.int (Int32.ofNat ic)), .unset, .unset, .unset, .unset] [(.int p5)])) _
          refine XS.bipush X229.here hx rfl (hb hby at_157) ?_
          show Steps p.tables e below (T229.setTop (mkF m 159 #[.val (.int p1), .val (.int p2), .val (.int p3), .val (.int p4), .val (.int p5), .val vz_2, .val vz_5, .val vz_9, .val vz_14, .val (.int (3 : Int32)), .val (.ref b206), .val (.int (Int32.ofNat ic)), .unset, .unset, .unset, .unset] [(.int (7 : Int32)), (.int p5)])) _
          refine XS.iand X229.here hx rfl (hb hby at_159) rfl ?_
          show Steps p.tables e below (T229.setTop (mkF m 160 #[.val (.int p1), .val (.int p2), .val (.int p3), .val (.int p4), .val (.int p5), .val vz_2, .val vz_5, .val vz_9, .val vz_14, .val (.int (3 : Int32)), .val (.ref b206), .val (.int (Int32.ofNat ic)), .unset, .unset, .unset, .unset] [(.int (p5 &&& (7 : Int32)))])) _
          refine XS.istore X229.here hx rfl (hb hby at_160) rfl (l' := #[.val (.int p1), .val (.int p2), .val (.int p3), .val (.int p4), .val (.int p5), .val vz_2, .val vz_5, .val vz_9, .val vz_14, .val (.int (3 : Int32)), .val (.ref b206), .val (.int (Int32.ofNat ic)), .val (.int (p5 &&& (7 : Int32))), .unset, .unset, .unset]) rfl ?_
          exact kt
        obtain ⟨T239, h239, X239, e239, E239, A239, D239, -, st239⟩ := newO X229 hx hZ hown (hw _ (List.mem_of_getElem? (i := 33) rfl)) (hw _ (List.mem_of_getElem? (i := 34) rfl)) (hw _ (List.mem_of_getElem? (i := 35) rfl)) e229 (g := (mkF m 162 #[.val (.int p1), .val (.int p2), .val (.int p3), .val (.int p4), .val (.int p5), .val vz_2, .val vz_5, .val vz_9, .val vz_14, .val (.int (3 : Int32)), .val (.ref b206), .val (.int (Int32.ofNat ic)), .val (.int (p5 &&& (7 : Int32))), .unset, .unset, .unset] [])) rfl (hb hby at_162) (by decide) (by decide)
        obtain ⟨b239, g239⟩ : ∃ z, z = h229.size := ⟨_, rfl⟩
        have ne_b206_b239 : b206 ≠ b239 := Nat.ne_of_lt (Nat.lt_of_lt_of_le V_b206_229'.lt (Nat.le_of_eq g239.symm))
        have g_b239 : n0 ≤ b239 := Nat.le_trans Z229 (Nat.le_of_eq g239.symm)
        have sz_b239 : h0.size ≤ b239 := Nat.le_trans K229.1 (Nat.le_of_eq g239.symm)
        rw [← g239] at A239 D239 st239
        have K239 : Keep h0 h239 [] := K229.ext E239
        have Z239 : n0 ≤ h239.size := Nat.le_trans Z229 E239.1
        have mo239_0 := Nat.le_trans mo229_0 E239.1
        have CR239 := CR229.trans (CHr.ext E239 CR229.1)
        have SCS_240 := SCS_230.ext E239
        have SS_vz_2_2_241 := own_Sext SS_vz_2_2_231 E239
        have SS_vz_5_5_242 := own_Sext SS_vz_5_5_232 E239
        have SS_vz_9_9_243 := own_Sext SS_vz_9_9_233 E239
        have SS_vz_14_14_244 := own_Sext SS_vz_14_14_234 E239
        have V_b206_245 := V_b206_229'.ext E239
        have F_file_b239 : Fld Z h239 b239 "com/example/pourcode/pourcode/csv/CsvRecord" "file" "Ljava/lang/String;" .null := D239 (Or.inr (hw _ (List.mem_of_getElem? (i := 44) rfl))) (ty := (.object "java/lang/String")) (by decide)
        have F_line_b239 : Fld Z h239 b239 "com/example/pourcode/pourcode/csv/CsvRecord" "line" "I" (.int (0 : Int32)) := D239 (Or.inr (hw _ (List.mem_of_getElem? (i := 46) rfl))) (ty := .int) (by decide)
        have F_values_b239 : Fld Z h239 b239 "com/example/pourcode/pourcode/csv/CsvRecord" "values" "[Ljava/lang/String;" .null := D239 (Or.inr (hw _ (List.mem_of_getElem? (i := 48) rfl))) (ty := (.array (.object "java/lang/String"))) (by decide)
        have F_size_b239 : Fld Z h239 b239 "com/example/pourcode/pourcode/csv/CsvRecord" "size" "I" (.int (0 : Int32)) := D239 (Or.inr (hw _ (List.mem_of_getElem? (i := 50) rfl))) (ty := .int) (by decide)
        have F_text_b239 : Fld Z h239 b239 "com/example/pourcode/pourcode/csv/CsvRecord" "text" "[B" .null := D239 (Or.inr (hw _ (List.mem_of_getElem? (i := 52) rfl))) (ty := (.array .byte)) (by decide)
        have pre239 : ∀ t, Steps p.tables e below (T239.setTop (mkF m 165 #[.val (.int p1), .val (.int p2), .val (.int p3), .val (.int p4), .val (.int p5), .val vz_2, .val vz_5, .val vz_9, .val vz_14, .val (.int (3 : Int32)), .val (.ref b206), .val (.int (Int32.ofNat ic)), .val (.int (p5 &&& (7 : Int32))), .unset, .unset, .unset] [(.ref b239)])) t → Steps p.tables e below (s₁.setTop (entryFrame m #[(.int p1), (.int p2), (.int p3), (.int p4), (.int p5)] maxLocals)) t := fun t kt => pre238 t (st239 _ kt)
        have pre246 : ∀ t, Steps p.tables e below (T239.setTop (mkF m 166 #[.val (.int p1), .val (.int p2), .val (.int p3), .val (.int p4), .val (.int p5), .val vz_2, .val vz_5, .val vz_9, .val vz_14, .val (.int (3 : Int32)), .val (.ref b206), .val (.int (Int32.ofNat ic)), .val (.int (p5 &&& (7 : Int32))), .unset, .unset, .unset] [(.ref b239), (.ref b239)])) t → Steps p.tables e below (s₁.setTop (entryFrame m #[(.int p1), (.int p2), (.int p3), (.int p4), (.int p5)] maxLocals)) t := by
          intro t kt
          refine pre239 t ?_
          show Steps p.tables e below (T239.setTop (mkF m 165 #[.val (.int p1), .val (.int p2), .val (.int p3), .val (.int p4), .val (.int p5), .val vz_2, .val vz_5, .val vz_9, .val vz_14, .val (.int (3 : Int32)), .val (.ref b206), .val (.int (Int32.ofNat ic)), .val (.int (p5 &&& (7 : Int32))), .unset, .unset, .unset] [(.ref b239)])) _
          refine XS.dup X239.here hx rfl (hb hby at_165) rfl rfl ?_
          exact kt
        obtain ⟨a247, T247, h247, k247, b247, kb247, X247, e247, E247, hS247, hk247, hZ, hown, A247, C247, F247, V247, la247, lb247, CQ247, Li247, sf247, st247⟩ := ldcCH (s := s) (vm0 := s.vm) (text := own_t36) X239 hx hZ hown (hw _ (List.mem_of_getElem? (i := 36) rfl)) wS e239 hS0 mo239_0 hEL own_mem36 CR239.1 (vs := (own_cs36.map fun c => c.toInt8.toInt32).map Value.int) (z := (1 : Int32)) own_ht36 (by decide) (by decide +kernel) (g := (mkF m 166 #[.val (.int p1), .val (.int p2), .val (.int p3), .val (.int p4), .val (.int p5), .val vz_2, .val vz_5, .val vz_9, .val vz_14, .val (.int (3 : Int32)), .val (.ref b206), .val (.int (Int32.ofNat ic)), .val (.int (p5 &&& (7 : Int32))), .unset, .unset, .unset] [(.ref b239), (.ref b239)])) rfl (hb hby at_166) (n := 4) (by decide +kernel) (by decide) (by decide) (by decide)
        have K247 : Keep h0 h247 [] := K239.ext E247
        have Z247 : n0 ≤ h247.size := Nat.le_trans Z239 E247.1
        have mo247_0 := Nat.le_trans mo239_0 E247.1
        have SCS_248 := SCS_240.ext E247
        have SS_vz_2_2_249 := own_Sext SS_vz_2_2_241 E247
        have SS_vz_5_5_250 := own_Sext SS_vz_5_5_242 E247
        have SS_vz_9_9_251 := own_Sext SS_vz_9_9_243 E247
        have SS_vz_14_14_252 := own_Sext SS_vz_14_14_244 E247
        have V_b206_253 := V_b206_245.ext E247
        have A239_254 := A239.ext E247
        have F_file_b239_255 := F_file_b239.ext E247
        have F_line_b239_256 := F_line_b239.ext E247
        have F_values_b239_257 := F_values_b239.ext E247
        have F_size_b239_258 := F_size_b239.ext E247
        have F_text_b239_259 := F_text_b239.ext E247
        have CR247 := CR239.trans CQ247
        have nel247_b206 := sf247 _ (Safe.arv (hZ.alike) V_b206_253 (by decide))
        have nel247_b239 := sf247 _ (Safe.exa (hZ.alike) A239_254 (by decide) (by decide))
        have pre247 : ∀ t, Steps p.tables e below (T247.setTop (mkF m 168 #[.val (.int p1), .val (.int p2), .val (.int p3), .val (.int p4), .val (.int p5), .val vz_2, .val vz_5, .val vz_9, .val vz_14, .val (.int (3 : Int32)), .val (.ref b206), .val (.int (Int32.ofNat ic)), .val (.int (p5 &&& (7 : Int32))), .unset, .unset, .unset] [(.ref a247), (.ref b239), (.ref b239)])) t → Steps p.tables e below (s₁.setTop (entryFrame m #[(.int p1), (.int p2), (.int p3), (.int p4), (.int p5)] maxLocals)) t := fun t kt => pre246 t (st247 _ kt)
        have pre260 : ∀ t, Steps p.tables e below (T247.setTop (mkF m 174 #[.val (.int p1), .val (.int p2), .val (.int p3), .val (.int p4), .val (.int p5), .val vz_2, .val vz_5, .val vz_9, .val vz_14, .val (.int (3 : Int32)), .val (.ref b206), .val (.int (Int32.ofNat ic)), .val (.int (p5 &&& (7 : Int32))), .unset, .unset, .unset] [.null, (.int (p5 &&& (7 : Int32))), (.ref b206), (.int (1 : Int32)), (.ref a247), (.ref b239), (.ref b239)])) t → Steps p.tables e below (s₁.setTop (entryFrame m #[(.int p1), (.int p2), (.int p3), (.int p4), (.int p5)] maxLocals)) t := by
          intro t kt
          refine pre247 t ?_
          show Steps p.tables e below (T247.setTop (mkF m 168 #[.val (.int p1), .val (.int p2), .val (.int p3), .val (.int p4), .val (.int p5), .val vz_2, .val vz_5, .val vz_9, .val vz_14, .val (.int (3 : Int32)), .val (.ref b206), .val (.int (Int32.ofNat ic)), .val (.int (p5 &&& (7 : Int32))), .unset, .unset, .unset] [(.ref a247), (.ref b239), (.ref b239)])) _
          refine XS.iconst X247.here hx rfl (hb hby at_168) ?_
          show Steps p.tables e below (T247.setTop (mkF m 169 #[.val (.int p1), .val (.int p2), .val (.int p3), .val (.int p4), .val (.int p5), .val vz_2, .val vz_5, .val vz_9, .val vz_14, .val (.int (3 : Int32)), .val (.ref b206), .val (.int (Int32.ofNat ic)), .val (.int (p5 &&& (7 : Int32))), .unset, .unset, .unset] [(.int (1 : Int32)), (.ref a247), (.ref b239), (.ref b239)])) _
          refine XS.aload X247.here hx rfl (hb hby at_169) rfl rfl ?_
          show Steps p.tables e below (T247.setTop (mkF m 171 #[.val (.int p1), .val (.int p2), .val (.int p3), .val (.int p4), .val (.int p5), .val vz_2, .val vz_5, .val vz_9, .val vz_14, .val (.int (3 : Int32)), .val (.ref b206), .val (.int (Int32.ofNat ic)), .val (.int (p5 &&& (7 : Int32))), .unset, .unset, .unset] [(.ref b206), (.int (1 : Int32)), (.ref a247), (.ref b239), (.ref b239)])) _
          refine XS.iload X247.here hx rfl (hb hby at_171) rfl ?_
          show Steps p.tables e below (T247.setTop (mkF m 173 #[.val (.int p1), .val (.int p2), .val (.int p3), .val (.int p4), .val (.int p5), .val vz_2, .val vz_5, .val vz_9, .val vz_14, .val (.int (3 : Int32)), .val (.ref b206), .val (.int (Int32.ofNat ic)), .val (.int (p5 &&& (7 : Int32))), .unset, .unset, .unset] [(.int (p5 &&& (7 : Int32))), (.ref b206), (.int (1 : Int32)), (.ref a247), (.ref b239), (.ref b239)])) _
          refine XS.aconstNull X247.here hx rfl (hb hby at_173) ?_
          exact kt
        obtain ⟨_, _, ⟨T261, L261, k261, n261⟩, -, X261, ⟨Lc261, hQ261, l261, y261, z261⟩, st261⟩ := X247.specialBack hx (y := (⟨"com/example/pourcode/pourcode/csv/CsvRecord", "<init>", "(Ljava/lang/String;I[Ljava/lang/String;I[B)V"⟩ : MethodName)) rfl hown (mvT hZ (hw _ (List.mem_of_getElem? (i := 39) rfl))) (mvT hZ (hw _ (List.mem_of_getElem? (i := 40) rfl))) (mvT hZ (hw _ (List.mem_of_getElem? (i := 41) rfl))) (by decide) (backOf (W := 1) (rm7 l Z a0 hw [] b239 a247 (1 : Int32) b206 (p5 &&& (7 : Int32)) h247 n0 Z247 A239_254 F_file_b239_255 F_line_b239_256 F_values_b239_257 F_size_b239_258 F_text_b239_259 g_b239) hZ (hw _ (List.mem_of_getElem? (i := 41) rfl)) (hw _ (List.mem_of_getElem? (i := 35) rfl)) (by decide) (by decide)) (g := (mkF m 174 #[.val (.int p1), .val (.int p2), .val (.int p3), .val (.int p4), .val (.int p5), .val vz_2, .val vz_5, .val vz_9, .val vz_14, .val (.int (3 : Int32)), .val (.ref b206), .val (.int (Int32.ofNat ic)), .val (.int (p5 &&& (7 : Int32))), .unset, .unset, .unset] [.null, (.int (p5 &&& (7 : Int32))), (.ref b206), (.int (1 : Int32)), (.ref a247), (.ref b239), (.ref b239)])) rfl (by rw [hml]; rfl) (Steps.refl _) (a := b239) (argsL := [(.ref a247), (.int (1 : Int32)), (.ref b206), (.int (p5 &&& (7 : Int32))), .null]) (rest := [(.ref b239)]) (lenOf pd_7 rfl) rfl (by show 2 * 0 + _ ≤ _; exact Nat.le_of_eq rfl) (hb hby at_174) (fun _ _ => ⟨rfl, e247, (by decide : 12 + 0 ≤ _), (by decide : 36 + 0 ≤ _)⟩)
        dsimp only [Pt.U, Pt.locs, Pt.cells, Pt.slots] at X261 l261 y261 z261 st261 hQ261
        subst l261 y261 z261
        obtain ⟨rfl, N261q, KC261, P261_0, P261_1, P261_2⟩ := hQ261
        have N261 := Fr.app N229 N261q
        have Z261 : n0 ≤ T261.heap.size := Nat.le_trans Z247 KC261.1
        have mo261_0 := Nat.le_trans hk247 KC261.1
        have CR261 := CR247.trans (CHr.keep KC261 (sfS (Safe.exa (hZ.alike) A239_254 (by decide) (by decide)) sf0) CR247.1)
        have K261 : Keep h0 T261.heap [] := K247.trans KC261 (allS (Or.inr sz_b239) all0)
        have SCS_262 := own_stak SCS_248 KC261 (nsS A239_254.nostat ns0)
        have SS_vz_2_2_263 := own_Skeep SS_vz_2_2_249 KC261
        have SS_vz_5_5_264 := own_Skeep SS_vz_5_5_250 KC261
        have SS_vz_9_9_265 := own_Skeep SS_vz_9_9_251 KC261
        have SS_vz_14_14_266 := own_Skeep SS_vz_14_14_252 KC261
        have V_b206_267 := V_b206_253.keep KC261 (ninS ne_b206_b239 nin0)
        have A239_268 := A239_254.keep KC261
        have A247_274 := A247.keep KC261
        have C247_275 := C247.keep KC261 (ninS (Ne.symm nel247_b239.1) nin0)
        have F247_276 := F247.keep KC261 (ninS (Ne.symm nel247_b239.1) nin0)
        have V247_277 := V247.keep KC261 (ninS (Ne.symm nel247_b239.2) nin0)
        have E_b239_261 : Exa Z T261.heap b239 "com/example/pourcode/pourcode/csv/CsvRecord" := P261_0
        have F_values_b239_261 : Fld Z T261.heap b239 "com/example/pourcode/pourcode/csv/CsvRecord" "values" "[Ljava/lang/String;" (.ref b206) := P261_1
        have F_size_b239_261 : Fld Z T261.heap b239 "com/example/pourcode/pourcode/csv/CsvRecord" "size" "I" (.int (p5 &&& (7 : Int32))) := P261_2
        have pre261 : ∀ t, Steps p.tables e below (T261.setTop (mkF m 177 #[.val (.int p1), .val (.int p2), .val (.int p3), .val (.int p4), .val (.int p5), .val vz_2, .val vz_5, .val vz_9, .val vz_14, .val (.int (3 : Int32)), .val (.ref b206), .val (.int (Int32.ofNat ic)), .val (.int (p5 &&& (7 : Int32))), .unset, .unset, .unset] [(.ref b239)])) t → Steps p.tables e below (s₁.setTop (entryFrame m #[(.int p1), (.int p2), (.int p3), (.int p4), (.int p5)] maxLocals)) t := fun t kt => pre260 t (st261.trans kt)
        have pre278 : ∀ t, Steps p.tables e below (T261.setTop (mkF m 183 #[.val (.int p1), .val (.int p2), .val (.int p3), .val (.int p4), .val (.int p5), .val vz_2, .val vz_5, .val vz_9, .val vz_14, .val (.int (3 : Int32)), .val (.ref b206), .val (.int (Int32.ofNat ic)), .val (.int (p5 &&& (7 : Int32))), .val (.ref b239), .unset, .unset] [(.int (Int32.ofNat ic)), (.ref b239)])) t → Steps p.tables e below (s₁.setTop (entryFrame m #[(.int p1), (.int p2), (.int p3), (.int p4), (.int p5)] maxLocals)) t := by
          intro t kt
          refine pre261 t ?_
          show Steps p.tables e below (T261.setTop (mkF m 177 #[.val (.int p1), .val (.int p2), .val (.int p3), .val (.int p4), .val (.int p5), .val vz_2, .val vz_5, .val vz_9, .val vz_14, .val (.int (3 : Int32)), .val (.ref b206), .val (.int (Int32.ofNat ic)), .val (.int (p5 &&& (7 : Int32))), .unset, .unset, .unset] [(.ref b239)])) _
          refine XS.astore X261.here hx rfl (hb hby at_177) rfl rfl (l' := #[.val (.int p1), .val (.int p2), .val (.int p3), .val (.int p4), .val (.int p5), .val vz_2, .val vz_5, .val vz_9, .val vz_14, .val (.int (3 : Int32)), .val (.ref b206), .val (.int (Int32.ofNat ic)), .val (.int (p5 &&& (7 : Int32))), .val (.ref b239), .unset, .unset]) rfl ?_
          show Steps p.tables e below (T261.setTop (mkF m 179 #[.val (.int p1), .val (.int p2), .val (.int p3), .val (.int p4), .val (.int p5), .val vz_2, .val vz_5, .val vz_9, .val vz_14, .val (.int (3 : Int32)), .val (.ref b206), .val (.int (Int32.ofNat ic)), .val (.int (p5 &&& (7 : Int32))), .val (.ref b239), .unset, .unset] [])) _
          refine XS.aload X261.here hx rfl (hb hby at_179) rfl rfl ?_
          show Steps p.tables e below (T261.setTop (mkF m 181 #[.val (.int p1), .val (.int p2), .val (.int p3), .val (.int p4), .val (.int p5), .val vz_2, .val vz_5, .val vz_9, .val vz_14, .val (.int (3 : Int32)), .val (.ref b206), .val (.int (Int32.ofNat ic)), .val (.int (p5 &&& (7 : Int32))), .val (.ref b239), .unset, .unset] [(.ref b239)])) _
          refine XS.iload X261.here hx rfl (hb hby at_181) rfl ?_
          exact kt
        by_cases hsz : (Int32.ofNat ic) < (p5 &&& (7 : Int32))
        · skip
          obtain ⟨cq279, kq279, q279a, q279b, q279c⟩ := isOf hZ rfl E_b239_261
          obtain ⟨_, _, ⟨T279, L279, k279, n279⟩, -, X279, ⟨Lc279, hQ279, l279, y279, z279⟩, st279⟩ := X261.virtualBack hx (y := (⟨"com/example/pourcode/pourcode/csv/CsvRecord", "get", "(I)Ljava/lang/String;"⟩ : MethodName)) (z := (⟨"com/example/pourcode/pourcode/csv/CsvRecord", "get", "(I)Ljava/lang/String;"⟩ : MethodName)) hown (mvT hZ (hw _ (List.mem_of_getElem? (i := 53) rfl))) (mvT hZ (hw _ (List.mem_of_getElem? (i := 54) rfl))) (notFace_of_selects (args := #[]) (mvT hZ (hw _ (List.mem_of_getElem? (i := 56) rfl)))) (mvT hZ (hw _ (List.mem_of_getElem? (i := 56) rfl))) (mvT hZ (hw _ (List.mem_of_getElem? (i := 55) rfl))) (by decide) (backOf (W := 0) (rm8a l Z a0 hw [] b239 (Int32.ofNat ic) b206 (p5 &&& (7 : Int32)) k206 (3 : Int32) [vz_2, vz_5, vz_9] ([vz_2, vz_5, vz_9].getD ic Value.null) T261.heap n0 Z261 F_values_b239_261 F_size_b239_261 V_b206_267 ((own_ix3 hic).1) ((own_ix3 hic).2) (hsz) (by rw [own_clamp4 (by omega)]) (own_getref (fun v hv => by simp only [List.mem_cons, List.not_mem_nil, or_false] at hv; rcases hv with rfl | rfl | rfl <;> assumption) ic)) hZ (hw _ (List.mem_of_getElem? (i := 57) rfl)) (hw _ (List.mem_of_getElem? (i := 35) rfl)) (by decide) (by decide)) q279a q279c (g := (mkF m 183 #[.val (.int p1), .val (.int p2), .val (.int p3), .val (.int p4), .val (.int p5), .val vz_2, .val vz_5, .val vz_9, .val vz_14, .val (.int (3 : Int32)), .val (.ref b206), .val (.int (Int32.ofNat ic)), .val (.int (p5 &&& (7 : Int32))), .val (.ref b239), .unset, .unset] [(.int (Int32.ofNat ic)), (.ref b239)])) rfl (by rw [hml]; rfl) (Steps.refl _) (argsL := [(.int (Int32.ofNat ic))]) (rest := []) (lenOf pd_8 rfl) rfl (by show 2 * 0 + _ ≤ _; exact Nat.le_of_eq rfl) (hb hby at_183) (fun _ _ => ⟨rfl, rfl, (by decide : 12 + 0 ≤ _), (by decide : 36 + 0 ≤ _)⟩)
          dsimp only [Pt.U, Pt.locs, Pt.cells, Pt.slots] at X279 l279 y279 z279 st279 hQ279
          subst l279 y279 z279
          obtain ⟨rfl, N279q, e279⟩ := hQ279
          have N279 := Fr.app N261 N279q
          have pre279 : ∀ t, Steps p.tables e below (T279.setTop (mkF m 186 #[.val (.int p1), .val (.int p2), .val (.int p3), .val (.int p4), .val (.int p5), .val vz_2, .val vz_5, .val vz_9, .val vz_14, .val (.int (3 : Int32)), .val (.ref b206), .val (.int (Int32.ofNat ic)), .val (.int (p5 &&& (7 : Int32))), .val (.ref b239), .unset, .unset] [([vz_2, vz_5, vz_9].getD ic Value.null)])) t → Steps p.tables e below (s₁.setTop (entryFrame m #[(.int p1), (.int p2), (.int p3), (.int p4), (.int p5)] maxLocals)) t := fun t kt => pre278 t (st279.trans kt)
          have hgz : ([vz_2, vz_5, vz_9].getD ic Value.null).isRef = true := own_getref (fun v hv => by simp only [List.mem_cons, List.not_mem_nil, or_false] at hv; rcases hv with rfl | rfl | rfl <;> assumption) ic
          have pre280 : ∀ t, Steps p.tables e below (T279.setTop (mkF m 190 #[.val (.int p1), .val (.int p2), .val (.int p3), .val (.int p4), .val (.int p5), .val vz_2, .val vz_5, .val vz_9, .val vz_14, .val (.int (3 : Int32)), .val (.ref b206), .val (.int (Int32.ofNat ic)), .val (.int (p5 &&& (7 : Int32))), .val (.ref b239), .val ([vz_2, vz_5, vz_9].getD ic Value.null), .unset] [(.int (Int32.ofNat ic))])) t → Steps p.tables e below (s₁.setTop (entryFrame m #[(.int p1), (.int p2), (.int p3), (.int p4), (.int p5)] maxLocals)) t := by
            intro t kt
            refine pre279 t ?_
            show Steps p.tables e below (T279.setTop (mkF m 186 #[.val (.int p1), .val (.int p2), .val (.int p3), .val (.int p4), .val (.int p5), .val vz_2, .val vz_5, .val vz_9, .val vz_14, .val (.int (3 : Int32)), .val (.ref b206), .val (.int (Int32.ofNat ic)), .val (.int (p5 &&& (7 : Int32))), .val (.ref b239), .unset, .unset] [([vz_2, vz_5, vz_9].getD ic Value.null)])) _
            refine XS.astore X279.here hx rfl (hb hby at_186) rfl hgz (l' := #[.val (.int p1), .val (.int p2), .val (.int p3), .val (.int p4), .val (.int p5), .val vz_2, .val vz_5, .val vz_9, .val vz_14, .val (.int (3 : Int32)), .val (.ref b206), .val (.int (Int32.ofNat ic)), .val (.int (p5 &&& (7 : Int32))), .val (.ref b239), .val ([vz_2, vz_5, vz_9].getD ic Value.null), .unset]) (by rcases ref_cases hgz with q | ⟨_, q⟩ <;> rw [q] <;> rfl) ?_
            show Steps p.tables e below (T279.setTop (mkF m 188 #[.val (.int p1), .val (.int p2), .val (.int p3), .val (.int p4), .val (.int p5), .val vz_2, .val vz_5, .val vz_9, .val vz_14, .val (.int (3 : Int32)), .val (.ref b206), .val (.int (Int32.ofNat ic)), .val (.int (p5 &&& (7 : Int32))), .val (.ref b239), .val ([vz_2, vz_5, vz_9].getD ic Value.null), .unset] [])) _
            refine XS.iload X279.here hx rfl (hb hby at_188) rfl ?_
            exact kt
          obtain ⟨v281_0, hv281_0, pre281⟩ : ∃ (v281_0 : Value), v281_0 = (if (Int32.ofNat ic) = (0 : Int32) then vz_2 else (if (Int32.ofNat ic) = (1 : Int32) then vz_5 else (if (Int32.ofNat ic) = (2 : Int32) then vz_9 else vz_14))) ∧ ∀ t, Steps p.tables e below (T279.setTop (mkF m 230 #[.val (.int p1), .val (.int p2), .val (.int p3), .val (.int p4), .val (.int p5), .val vz_2, .val vz_5, .val vz_9, .val vz_14, .val (.int (3 : Int32)), .val (.ref b206), .val (.int (Int32.ofNat ic)), .val (.int (p5 &&& (7 : Int32))), .val (.ref b239), .val ([vz_2, vz_5, vz_9].getD ic Value.null), .val v281_0] [])) t → Steps p.tables e below (s₁.setTop (entryFrame m #[(.int p1), (.int p2), (.int p3), (.int p4), (.int p5)] maxLocals)) t := by
            refine ⟨_, rfl, ?_⟩
            intro t kt
            refine pre280 t ?_
            show Steps p.tables e below (T279.setTop (mkF m 190 #[.val (.int p1), .val (.int p2), .val (.int p3), .val (.int p4), .val (.int p5), .val vz_2, .val vz_5, .val vz_9, .val vz_14, .val (.int (3 : Int32)), .val (.ref b206), .val (.int (Int32.ofNat ic)), .val (.int (p5 &&& (7 : Int32))), .val (.ref b239), .val ([vz_2, vz_5, vz_9].getD ic Value.null), .unset] [(.int (Int32.ofNat ic))])) _
            by_cases hc190 : (Int32.ofNat ic) = (0 : Int32)
            · (try simp only [if_pos hc190] at kt)
              refine XS.ifNo X279.here hx rfl (hb hby at_190) rfl ((if0 _ _).trans (teq hc190).2) ?_
              show Steps p.tables e below (T279.setTop (mkF m 193 #[.val (.int p1), .val (.int p2), .val (.int p3), .val (.int p4), .val (.int p5), .val vz_2, .val vz_5, .val vz_9, .val vz_14, .val (.int (3 : Int32)), .val (.ref b206), .val (.int (Int32.ofNat ic)), .val (.int (p5 &&& (7 : Int32))), .val (.ref b239), .val ([vz_2, vz_5, vz_9].getD ic Value.null), .unset] [])) _
              refine XS.aload X279.here hx rfl (hb hby at_193) rfl R2_0 ?_
              show Steps p.tables e below (T279.setTop (mkF m 195 #[.val (.int p1), .val (.int p2), .val (.int p3), .val (.int p4), .val (.int p5), .val vz_2, .val vz_5, .val vz_9, .val vz_14, .val (.int (3 : Int32)), .val (.ref b206), .val (.int (Int32.ofNat ic)), .val (.int (p5 &&& (7 : Int32))), .val (.ref b239), .val ([vz_2, vz_5, vz_9].getD ic Value.null), .unset] [vz_2])) _
              refine XS.astore X279.here hx rfl (hb hby at_195) rfl R2_0 (l' := #[.val (.int p1), .val (.int p2), .val (.int p3), .val (.int p4), .val (.int p5), .val vz_2, .val vz_5, .val vz_9, .val vz_14, .val (.int (3 : Int32)), .val (.ref b206), .val (.int (Int32.ofNat ic)), .val (.int (p5 &&& (7 : Int32))), .val (.ref b239), .val ([vz_2, vz_5, vz_9].getD ic Value.null), .val vz_2]) (by rcases ref_cases R2_0 with q | ⟨_, q⟩ <;> rw [q] <;> rfl) ?_
              show Steps p.tables e below (T279.setTop (mkF m 197 #[.val (.int p1), .val (.int p2), .val (.int p3), .val (.int p4), .val (.int p5), .val vz_2, .val vz_5, .val vz_9, .val vz_14, .val (.int (3 : Int32)), .val (.ref b206), .val (.int (Int32.ofNat ic)), .val (.int (p5 &&& (7 : Int32))), .val (.ref b239), .val ([vz_2, vz_5, vz_9].getD ic Value.null), .val vz_2] [])) _
              refine XS.goto X279.here hx rfl (pc0 := 197) (pc' := 230) rfl (hb hby at_197) (by decide) (by decide) ?_
              exact kt
            · (try simp only [if_neg hc190] at kt)
              refine XS.ifYes X279.here hx rfl (pc0 := 190) (pc' := 200) rfl (hb hby at_190) rfl ((if0 _ _).trans (feq hc190).2) (by decide) (by decide) ?_
              show Steps p.tables e below (T279.setTop (mkF m 200 #[.val (.int p1), .val (.int p2), .val (.int p3), .val (.int p4), .val (.int p5), .val vz_2, .val vz_5, .val vz_9, .val vz_14, .val (.int (3 : Int32)), .val (.ref b206), .val (.int (Int32.ofNat ic)), .val (.int (p5 &&& (7 : Int32))), .val (.ref b239), .val ([vz_2, vz_5, vz_9].getD ic Value.null), .unset] [])) _
              refine XS.iload X279.here hx rfl (hb hby at_200) rfl ?_
              show Steps p.tables e below (T279.setTop (mkF m 202 #[.val (.int p1), .val (.int p2), .val (.int p3), .val (.int p4), .val (.int p5), .val vz_2, .val vz_5, .val vz_9, .val vz_14, .val (.int (3 : Int32)), .val (.ref b206), .val (.int (Int32.ofNat ic)), .val (.int (p5 &&& (7 : Int32))), .val (.ref b239), .val ([vz_2, vz_5, vz_9].getD ic Value.null), .unset] [(.int (Int32.ofNat ic))])) _
              refine XS.iconst X279.here hx rfl (hb hby at_202) ?_
              show Steps p.tables e below (T279.setTop (mkF m 203 #[.val (.int p1), .val (.int p2), .val (.int p3), .val (.int p4), .val (.int p5), .val vz_2, .val vz_5, .val vz_9, .val vz_14, .val (.int (3 : Int32)), .val (.ref b206), .val (.int (Int32.ofNat ic)), .val (.int (p5 &&& (7 : Int32))), .val (.ref b239), .val ([vz_2, vz_5, vz_9].getD ic Value.null), .unset] [(.int (1 : Int32)), (.int (Int32.ofNat ic))])) _
              by_cases hc203 : (Int32.ofNat ic) = (1 : Int32)
              · (try simp only [if_pos hc203] at kt)
                refine XS.icmpNo X279.here hx rfl (hb hby at_203) rfl (teq hc203).2 ?_
                show Steps p.tables e below (T279.setTop (mkF m 206 #[.val (.int p1), .val (.int p2), .val (.int p3), .val (.int p4), .val (.int p5), .val vz_2, .val vz_5, .val vz_9, .val vz_14, .val (.int (3 : Int32)), .val (.ref b206), .val (.int (Int32.ofNat ic)), .val (.int (p5 &&& (7 : Int32))), .val (.ref b239), .val ([vz_2, vz_5, vz_9].getD ic Value.null), .unset] [])) _
                refine XS.aload X279.here hx rfl (hb hby at_206) rfl R5_0 ?_
                show Steps p.tables e below (T279.setTop (mkF m 208 #[.val (.int p1), .val (.int p2), .val (.int p3), .val (.int p4), .val (.int p5), .val vz_2, .val vz_5, .val vz_9, .val vz_14, .val (.int (3 : Int32)), .val (.ref b206), .val (.int (Int32.ofNat ic)), .val (.int (p5 &&& (7 : Int32))), .val (.ref b239), .val ([vz_2, vz_5, vz_9].getD ic Value.null), .unset] [vz_5])) _
                refine XS.astore X279.here hx rfl (hb hby at_208) rfl R5_0 (l' := #[.val (.int p1), .val (.int p2), .val (.int p3), .val (.int p4), .val (.int p5), .val vz_2, .val vz_5, .val vz_9, .val vz_14, .val (.int (3 : Int32)), .val (.ref b206), .val (.int (Int32.ofNat ic)), .val (.int (p5 &&& (7 : Int32))), .val (.ref b239), .val ([vz_2, vz_5, vz_9].getD ic Value.null), .val vz_5]) (by rcases ref_cases R5_0 with q | ⟨_, q⟩ <;> rw [q] <;> rfl) ?_
                show Steps p.tables e below (T279.setTop (mkF m 210 #[.val (.int p1), .val (.int p2), .val (.int p3), .val (.int p4), .val (.int p5), .val vz_2, .val vz_5, .val vz_9, .val vz_14, .val (.int (3 : Int32)), .val (.ref b206), .val (.int (Int32.ofNat ic)), .val (.int (p5 &&& (7 : Int32))), .val (.ref b239), .val ([vz_2, vz_5, vz_9].getD ic Value.null), .val vz_5] [])) _
                refine XS.goto X279.here hx rfl (pc0 := 210) (pc' := 230) rfl (hb hby at_210) (by decide) (by decide) ?_
                exact kt
              · (try simp only [if_neg hc203] at kt)
                refine XS.icmpYes X279.here hx rfl (pc0 := 203) (pc' := 213) rfl (hb hby at_203) rfl (feq hc203).2 (by decide) (by decide) ?_
                show Steps p.tables e below (T279.setTop (mkF m 213 #[.val (.int p1), .val (.int p2), .val (.int p3), .val (.int p4), .val (.int p5), .val vz_2, .val vz_5, .val vz_9, .val vz_14, .val (.int (3 : Int32)), .val (.ref b206), .val (.int (Int32.ofNat ic)), .val (.int (p5 &&& (7 : Int32))), .val (.ref b239), .val ([vz_2, vz_5, vz_9].getD ic Value.null), .unset] [])) _
                refine XS.iload X279.here hx rfl (hb hby at_213) rfl ?_
                show Steps p.tables e below (T279.setTop (mkF m 215 #[.val (.int p1), .val (.int p2), .val (.int p3), .val (.int p4), .val (.int p5), .val vz_2, .val vz_5, .val vz_9, .val vz_14, .val (.int (3 : Int32)), .val (.ref b206), .val (.int (Int32.ofNat ic)), .val (.int (p5 &&& (7 : Int32))), .val (.ref b239), .val ([vz_2, vz_5, vz_9].getD ic Value.null), .unset] [(.int (Int32.ofNat ic))])) _
                refine XS.iconst X279.here hx rfl (hb hby at_215) ?_
                show Steps p.tables e below (T279.setTop (mkF m 216 #[.val (.int p1), .val (.int p2), .val (.int p3), .val (.int p4), .val (.int p5), .val vz_2, .val vz_5, .val vz_9, .val vz_14, .val (.int (3 : Int32)), .val (.ref b206), .val (.int (Int32.ofNat ic)), .val (.int (p5 &&& (7 : Int32))), .val (.ref b239), .val ([vz_2, vz_5, vz_9].getD ic Value.null), .unset] [(.int (2 : Int32)), (.int (Int32.ofNat ic))])) _
                by_cases hc216 : (Int32.ofNat ic) = (2 : Int32)
                · (try simp only [if_pos hc216] at kt)
                  refine XS.icmpNo X279.here hx rfl (hb hby at_216) rfl (teq hc216).2 ?_
                  show Steps p.tables e below (T279.setTop (mkF m 219 #[.val (.int p1), .val (.int p2), .val (.int p3), .val (.int p4), .val (.int p5), .val vz_2, .val vz_5, .val vz_9, .val vz_14, .val (.int (3 : Int32)), .val (.ref b206), .val (.int (Int32.ofNat ic)), .val (.int (p5 &&& (7 : Int32))), .val (.ref b239), .val ([vz_2, vz_5, vz_9].getD ic Value.null), .unset] [])) _
                  refine XS.aload X279.here hx rfl (hb hby at_219) rfl R9_0 ?_
                  show Steps p.tables e below (T279.setTop (mkF m 221 #[.val (.int p1), .val (.int p2), .val (.int p3), .val (.int p4), .val (.int p5), .val vz_2, .val vz_5, .val vz_9, .val vz_14, .val (.int (3 : Int32)), .val (.ref b206), .val (.int (Int32.ofNat ic)), .val (.int (p5 &&& (7 : Int32))), .val (.ref b239), .val ([vz_2, vz_5, vz_9].getD ic Value.null), .unset] [vz_9])) _
                  refine XS.astore X279.here hx rfl (hb hby at_221) rfl R9_0 (l' := #[.val (.int p1), .val (.int p2), .val (.int p3), .val (.int p4), .val (.int p5), .val vz_2, .val vz_5, .val vz_9, .val vz_14, .val (.int (3 : Int32)), .val (.ref b206), .val (.int (Int32.ofNat ic)), .val (.int (p5 &&& (7 : Int32))), .val (.ref b239), .val ([vz_2, vz_5, vz_9].getD ic Value.null), .val vz_9]) (by rcases ref_cases R9_0 with q | ⟨_, q⟩ <;> rw [q] <;> rfl) ?_
                  show Steps p.tables e below (T279.setTop (mkF m 223 #[.val (.int p1), .val (.int p2), .val (.int p3), .val (.int p4), .val (.int p5), .val vz_2, .val vz_5, .val vz_9, .val vz_14, .val (.int (3 : Int32)), .val (.ref b206), .val (.int (Int32.ofNat ic)), .val (.int (p5 &&& (7 : Int32))), .val (.ref b239), .val ([vz_2, vz_5, vz_9].getD ic Value.null), .val vz_9] [])) _
                  refine XS.goto X279.here hx rfl (pc0 := 223) (pc' := 230) rfl (hb hby at_223) (by decide) (by decide) ?_
                  exact kt
                · (try simp only [if_neg hc216] at kt)
                  refine XS.icmpYes X279.here hx rfl (pc0 := 216) (pc' := 226) rfl (hb hby at_216) rfl (feq hc216).2 (by decide) (by decide) ?_
                  show Steps p.tables e below (T279.setTop (mkF m 226 #[.val (.int p1), .val (.int p2), .val (.int p3), .val (.int p4), .val (.int p5), .val vz_2, .val vz_5, .val vz_9, .val vz_14, .val (.int (3 : Int32)), .val (.ref b206), .val (.int (Int32.ofNat ic)), .val (.int (p5 &&& (7 : Int32))), .val (.ref b239), .val ([vz_2, vz_5, vz_9].getD ic Value.null), .unset] [])) _
                  refine XS.aload X279.here hx rfl (hb hby at_226) rfl R14_0 ?_
                  show Steps p.tables e below (T279.setTop (mkF m 228 #[.val (.int p1), .val (.int p2), .val (.int p3), .val (.int p4), .val (.int p5), .val vz_2, .val vz_5, .val vz_9, .val vz_14, .val (.int (3 : Int32)), .val (.ref b206), .val (.int (Int32.ofNat ic)), .val (.int (p5 &&& (7 : Int32))), .val (.ref b239), .val ([vz_2, vz_5, vz_9].getD ic Value.null), .unset] [vz_14])) _
                  refine XS.astore X279.here hx rfl (hb hby at_228) rfl R14_0 (l' := #[.val (.int p1), .val (.int p2), .val (.int p3), .val (.int p4), .val (.int p5), .val vz_2, .val vz_5, .val vz_9, .val vz_14, .val (.int (3 : Int32)), .val (.ref b206), .val (.int (Int32.ofNat ic)), .val (.int (p5 &&& (7 : Int32))), .val (.ref b239), .val ([vz_2, vz_5, vz_9].getD ic Value.null), .val vz_14]) (by rcases ref_cases R14_0 with q | ⟨_, q⟩ <;> rw [q] <;> rfl) ?_
                  exact kt
          have hr_v281_0 : v281_0.isRef = true := by rw [hv281_0]; (repeat' split) <;> assumption
          have pre282 : ∀ t, Steps p.tables e below (T279.setTop (mkF m 241 #[.val (.int p1), .val (.int p2), .val (.int p3), .val (.int p4), .val (.int p5), .val vz_2, .val vz_5, .val vz_9, .val vz_14, .val (.int (3 : Int32)), .val (.ref b206), .val (.int (Int32.ofNat ic)), .val (.int (p5 &&& (7 : Int32))), .val (.ref b239), .val ([vz_2, vz_5, vz_9].getD ic Value.null), .val v281_0] [v281_0, ([vz_2, vz_5, vz_9].getD ic Value.null)])) t → Steps p.tables e below (s₁.setTop (entryFrame m #[(.int p1), (.int p2), (.int p3), (.int p4), (.int p5)] maxLocals)) t := by
            intro t kt
            refine pre281 t ?_
            show Steps p.tables e below (T279.setTop (mkF m 230 #[.val (.int p1), .val (.int p2), .val (.int p3), .val (.int p4), .val (.int p5), .val vz_2, .val vz_5, .val vz_9, .val vz_14, .val (.int (3 : Int32)), .val (.ref b206), .val (.int (Int32.ofNat ic)), .val (.int (p5 &&& (7 : Int32))), .val (.ref b239), .val ([vz_2, vz_5, vz_9].getD ic Value.null), .val v281_0] [])) _
            refine XS.iload X279.here hx rfl (hb hby at_230) rfl ?_
            show Steps p.tables e below (T279.setTop (mkF m 232 #[.val (.int p1), .val (.int p2), .val (.int p3), .val (.int p4), .val (.int p5), .val vz_2, .val vz_5, .val vz_9, .val vz_14, .val (.int (3 : Int32)), .val (.ref b206), .val (.int (Int32.ofNat ic)), .val (.int (p5 &&& (7 : Int32))), .val (.ref b239), .val ([vz_2, vz_5, vz_9].getD ic Value.null), .val v281_0] [(.int (Int32.ofNat ic))])) _
            refine XS.iload X279.here hx rfl (hb hby at_232) rfl ?_
            show Steps p.tables e below (T279.setTop (mkF m 234 #[.val (.int p1), .val (.int p2), .val (.int p3), .val (.int p4), .val (.int p5), .val vz_2, .val vz_5, .val vz_9, .val vz_14, .val (.int (3 : Int32)), .val (.ref b206), .val (.int (Int32.ofNat ic)), .val (.int (p5 &&& (7 : Int32))), .val (.ref b239), .val ([vz_2, vz_5, vz_9].getD ic Value.null), .val v281_0] [(.int (p5 &&& (7 : Int32))), (.int (Int32.ofNat ic))])) _
            refine XS.icmpNo X279.here hx rfl (hb hby at_234) rfl (tlt hsz).2.1 ?_
            show Steps p.tables e below (T279.setTop (mkF m 237 #[.val (.int p1), .val (.int p2), .val (.int p3), .val (.int p4), .val (.int p5), .val vz_2, .val vz_5, .val vz_9, .val vz_14, .val (.int (3 : Int32)), .val (.ref b206), .val (.int (Int32.ofNat ic)), .val (.int (p5 &&& (7 : Int32))), .val (.ref b239), .val ([vz_2, vz_5, vz_9].getD ic Value.null), .val v281_0] [])) _
            refine XS.aload X279.here hx rfl (hb hby at_237) rfl hgz ?_
            show Steps p.tables e below (T279.setTop (mkF m 239 #[.val (.int p1), .val (.int p2), .val (.int p3), .val (.int p4), .val (.int p5), .val vz_2, .val vz_5, .val vz_9, .val vz_14, .val (.int (3 : Int32)), .val (.ref b206), .val (.int (Int32.ofNat ic)), .val (.int (p5 &&& (7 : Int32))), .val (.ref b239), .val ([vz_2, vz_5, vz_9].getD ic Value.null), .val v281_0] [([vz_2, vz_5, vz_9].getD ic Value.null)])) _
            refine XS.aload X279.here hx rfl (hb hby at_239) rfl hr_v281_0 ?_
            exact kt
          have pre283 : ∀ t, Steps p.tables e below (T279.setTop (mkF m 244 #[.val (.int p1), .val (.int p2), .val (.int p3), .val (.int p4), .val (.int p5), .val vz_2, .val vz_5, .val vz_9, .val vz_14, .val (.int (3 : Int32)), .val (.ref b206), .val (.int (Int32.ofNat ic)), .val (.int (p5 &&& (7 : Int32))), .val (.ref b239), .val ([vz_2, vz_5, vz_9].getD ic Value.null), .val v281_0] [])) t → Steps p.tables e below (s₁.setTop (entryFrame m #[(.int p1), (.int p2), (.int p3), (.int p4), (.int p5)] maxLocals)) t := fun t kt => pre282 t (by
            show Steps p.tables e below (T279.setTop (mkF m 241 #[.val (.int p1), .val (.int p2), .val (.int p3), .val (.int p4), .val (.int p5), .val vz_2, .val vz_5, .val vz_9, .val vz_14, .val (.int (3 : Int32)), .val (.ref b206), .val (.int (Int32.ofNat ic)), .val (.int (p5 &&& (7 : Int32))), .val (.ref b239), .val ([vz_2, vz_5, vz_9].getD ic Value.null), .val v281_0] [v281_0, ([vz_2, vz_5, vz_9].getD ic Value.null)])) _
            refine Jvm.RoadKit.acmp (g := (mkF m 241 #[.val (.int p1), .val (.int p2), .val (.int p3), .val (.int p4), .val (.int p5), .val vz_2, .val vz_5, .val vz_9, .val vz_14, .val (.int (3 : Int32)), .val (.ref b206), .val (.int (Int32.ofNat ic)), .val (.int (p5 &&& (7 : Int32))), .val (.ref b239), .val ([vz_2, vz_5, vz_9].getD ic Value.null), .val v281_0] [v281_0, ([vz_2, vz_5, vz_9].getD ic Value.null)])) X279 hx rfl hgz hr_v281_0 (pc0 := 241) (pc' := 244) (same := true) rfl (hb hby at_241) rfl (decide_eq_true ((own_kept3 hic).trans hv281_0.symm)) (by decide) (by decide) ?_
            exact kt)
          have pre284 : ∀ t, Steps p.tables e below (T279.setTop (mkF m 249 #[.val (.int p1), .val (.int p2), .val (.int p3), .val (.int p4), .val (.int p5), .val vz_2, .val vz_5, .val vz_9, .val vz_14, .val (.int (3 : Int32)), .val (.ref b206), .val (.int (Int32.ofNat ic)), .val (.int (p5 &&& (7 : Int32))), .val (.ref b239), .val ([vz_2, vz_5, vz_9].getD ic Value.null), .val v281_0] [(.int (1 : Int32))])) t → Steps p.tables e below (s₁.setTop (entryFrame m #[(.int p1), (.int p2), (.int p3), (.int p4), (.int p5)] maxLocals)) t := by
            intro t kt
            refine pre283 t ?_
            show Steps p.tables e below (T279.setTop (mkF m 244 #[.val (.int p1), .val (.int p2), .val (.int p3), .val (.int p4), .val (.int p5), .val vz_2, .val vz_5, .val vz_9, .val vz_14, .val (.int (3 : Int32)), .val (.ref b206), .val (.int (Int32.ofNat ic)), .val (.int (p5 &&& (7 : Int32))), .val (.ref b239), .val ([vz_2, vz_5, vz_9].getD ic Value.null), .val v281_0] [])) _
            refine XS.iconst X279.here hx rfl (hb hby at_244) ?_
            show Steps p.tables e below (T279.setTop (mkF m 245 #[.val (.int p1), .val (.int p2), .val (.int p3), .val (.int p4), .val (.int p5), .val vz_2, .val vz_5, .val vz_9, .val vz_14, .val (.int (3 : Int32)), .val (.ref b206), .val (.int (Int32.ofNat ic)), .val (.int (p5 &&& (7 : Int32))), .val (.ref b239), .val ([vz_2, vz_5, vz_9].getD ic Value.null), .val v281_0] [(.int (1 : Int32))])) _
            refine XS.goto X279.here hx rfl (pc0 := 245) (pc' := 249) rfl (hb hby at_245) (by decide) (by decide) ?_
            exact kt
          obtain ⟨fs, hr, hrun, hended, hEnd⟩ := X279.leaveW (s := s) (vm₁ := T247.vm) hS247 (by rw [e279]; exact mo261_0) (v := some (.int (1 : Int32))) (fun h => by rw [Bd.returns] at h; cases h)
          refine ⟨_, _, pre284 _ ?_, hrun, hended, _, _, rfl, ?_, hEnd.1, hEnd.2.1, hEnd.2.2.1, hEnd.2.2.2.mono (by decide) (by decide)⟩
          · show Steps p.tables e below (T279.setTop (mkF m 249 #[.val (.int p1), .val (.int p2), .val (.int p3), .val (.int p4), .val (.int p5), .val vz_2, .val vz_5, .val vz_9, .val vz_14, .val (.int (3 : Int32)), .val (.ref b206), .val (.int (Int32.ofNat ic)), .val (.int (p5 &&& (7 : Int32))), .val (.ref b239), .val ([vz_2, vz_5, vz_9].getD ic Value.null), .val v281_0] [(.int (1 : Int32))])) _
            exact retN X279 hx (t := .boolean) Bd.returns (by simp) (hb hby at_249) hr
          · show Q0 n0 _ T279.heap _
            rw [e279]
            exact ⟨rfl, N279⟩
        · skip
          obtain ⟨cq285, kq285, q285a, q285b, q285c⟩ := isOf hZ rfl E_b239_261
          obtain ⟨_, _, ⟨T285, L285, k285, n285⟩, -, X285, hSq285, hgq285, ⟨Lc285, hQ285, l285, y285, z285, CQ285⟩, st285⟩ := X261.virtualBackS (s := s.setVm T247.vm) hx (y := (⟨"com/example/pourcode/pourcode/csv/CsvRecord", "get", "(I)Ljava/lang/String;"⟩ : MethodName)) (z := (⟨"com/example/pourcode/pourcode/csv/CsvRecord", "get", "(I)Ljava/lang/String;"⟩ : MethodName)) hown (mvT hZ (hw _ (List.mem_of_getElem? (i := 53) rfl))) (mvT hZ (hw _ (List.mem_of_getElem? (i := 54) rfl))) (notFace_of_selects (args := #[]) (mvT hZ (hw _ (List.mem_of_getElem? (i := 56) rfl)))) (mvT hZ (hw _ (List.mem_of_getElem? (i := 56) rfl))) (mvT hZ (hw _ (List.mem_of_getElem? (i := 55) rfl))) (by decide) (backOfSH (s := s) (vm0 := T247.vm) (W := 0) (rm8b l Z a0 hw [] b239 (Int32.ofNat ic) b206 (p5 &&& (7 : Int32)) k206 (3 : Int32) [vz_2, vz_5, vz_9] T261.heap n0 Z261 F_values_b239_261 F_size_b239_261 V_b206_267 ((own_ix3 hic).1) ((own_ix3 hic).2) (hsz)) hZ (hw _ (List.mem_of_getElem? (i := 57) rfl)) (hw _ (List.mem_of_getElem? (i := 35) rfl)) (by decide) (by decide) hEL CR261.1) q285a q285c (g := (mkF m 183 #[.val (.int p1), .val (.int p2), .val (.int p3), .val (.int p4), .val (.int p5), .val vz_2, .val vz_5, .val vz_9, .val vz_14, .val (.int (3 : Int32)), .val (.ref b206), .val (.int (Int32.ofNat ic)), .val (.int (p5 &&& (7 : Int32))), .val (.ref b239), .unset, .unset] [(.int (Int32.ofNat ic)), (.ref b239)])) rfl (by rw [hml]; rfl) (Steps.refl _) (argsL := [(.int (Int32.ofNat ic))]) (rest := []) (lenOf pd_8 rfl) rfl (by show 2 * 0 + _ ≤ _; exact Nat.le_of_eq rfl) (hb hby at_183) (fun _ _ => ⟨rfl, rfl, (by decide : 12 + 2 ≤ _), (by decide : 36 + 4 ≤ _)⟩)
          dsimp only [Pt.U, Pt.locs, Pt.cells, Pt.slots] at X285 l285 y285 z285 st285 hQ285
          subst l285 y285 z285
          have hS285 := foldS hS247 mo261_0 hSq285 hgq285
          have hown := show T285.vm.findClass _ = some m.cls from (by rw [hSq285.1.alike.findClass]; exact hown)
          have hZ := State.Warmed39.trans (t := s.setVm T247.vm) hZ hSq285.1
          have CR285 := CR261.trans CQ285
          obtain ⟨az_285, tz_285, kz_285, rfl, N285q, KC285, P285_0, P285_1, P285_2⟩ := hQ285
          have N285 := Fr.app N261 N285q
          have Z285 : n0 ≤ T285.heap.size := Nat.le_trans Z261 KC285.1
          have mo285_0 := Nat.le_trans mo261_0 KC285.1
          have K285 : Keep h0 T285.heap [] := K261.trans KC285 all0
          have SCS_286 := own_stak SCS_262 KC285 ns0
          have SS_vz_2_2_287 := own_Skeep SS_vz_2_2_263 KC285
          have SS_vz_5_5_288 := own_Skeep SS_vz_5_5_264 KC285
          have SS_vz_9_9_289 := own_Skeep SS_vz_9_9_265 KC285
          have SS_vz_14_14_290 := own_Skeep SS_vz_14_14_266 KC285
          have V_b206_291 := V_b206_267.keep KC285 nin0
          have E_b239_261_292 := E_b239_261.keep KC285
          have A247_293 := A247_274.keep KC285
          have C247_294 := C247_275.keep KC285 nin0
          have F247_295 := F247_276.keep KC285 nin0
          have V247_296 := V247_277.keep KC285 nin0
          have F_values_b239_261_297 := F_values_b239_261.keep KC285 nin0
          have F_size_b239_261_298 := F_size_b239_261.keep KC285 nin0
          have E_az_285_285 : Exa Z T285.heap az_285 "java/lang/String" := P285_0
          have F_value_az_285_285 : Fld Z T285.heap az_285 "java/lang/String" "value" "[B" (.ref tz_285) := P285_1
          have V_tz_285_285 : Arv Z T285.heap tz_285 kz_285 .byte (0 : Int32) ((own_cs66.map fun c => c.toInt8.toInt32).map Value.int) (.int (0 : Int32)) := P285_2
          have pre285 : ∀ t, Steps p.tables e below (T285.setTop (mkF m 186 #[.val (.int p1), .val (.int p2), .val (.int p3), .val (.int p4), .val (.int p5), .val vz_2, .val vz_5, .val vz_9, .val vz_14, .val (.int (3 : Int32)), .val (.ref b206), .val (.int (Int32.ofNat ic)), .val (.int (p5 &&& (7 : Int32))), .val (.ref b239), .unset, .unset] [(.ref az_285)])) t → Steps p.tables e below (s₁.setTop (entryFrame m #[(.int p1), (.int p2), (.int p3), (.int p4), (.int p5)] maxLocals)) t := fun t kt => pre278 t (st285.trans kt)
          have pre299 : ∀ t, Steps p.tables e below (T285.setTop (mkF m 190 #[.val (.int p1), .val (.int p2), .val (.int p3), .val (.int p4), .val (.int p5), .val vz_2, .val vz_5, .val vz_9, .val vz_14, .val (.int (3 : Int32)), .val (.ref b206), .val (.int (Int32.ofNat ic)), .val (.int (p5 &&& (7 : Int32))), .val (.ref b239), .val (.ref az_285), .unset] [(.int (Int32.ofNat ic))])) t → Steps p.tables e below (s₁.setTop (entryFrame m #[(.int p1), (.int p2), (.int p3), (.int p4), (.int p5)] maxLocals)) t := by
            intro t kt
            refine pre285 t ?_
            show Steps p.tables e below (T285.setTop (mkF m 186 #[.val (.int p1), .val (.int p2), .val (.int p3), .val (.int p4), .val (.int p5), .val vz_2, .val vz_5, .val vz_9, .val vz_14, .val (.int (3 : Int32)), .val (.ref b206), .val (.int (Int32.ofNat ic)), .val (.int (p5 &&& (7 : Int32))), .val (.ref b239), .unset, .unset] [(.ref az_285)])) _
            refine XS.astore X285.here hx rfl (hb hby at_186) rfl rfl (l' := #[.val (.int p1), .val (.int p2), .val (.int p3), .val (.int p4), .val (.int p5), .val vz_2, .val vz_5, .val vz_9, .val vz_14, .val (.int (3 : Int32)), .val (.ref b206), .val (.int (Int32.ofNat ic)), .val (.int (p5 &&& (7 : Int32))), .val (.ref b239), .val (.ref az_285), .unset]) rfl ?_
            show Steps p.tables e below (T285.setTop (mkF m 188 #[.val (.int p1), .val (.int p2), .val (.int p3), .val (.int p4), .val (.int p5), .val vz_2, .val vz_5, .val vz_9, .val vz_14, .val (.int (3 : Int32)), .val (.ref b206), .val (.int (Int32.ofNat ic)), .val (.int (p5 &&& (7 : Int32))), .val (.ref b239), .val (.ref az_285), .unset] [])) _
            refine XS.iload X285.here hx rfl (hb hby at_188) rfl ?_
            exact kt
          obtain ⟨v300_0, hv300_0, pre300⟩ : ∃ (v300_0 : Value), v300_0 = (if (Int32.ofNat ic) = (0 : Int32) then vz_2 else (if (Int32.ofNat ic) = (1 : Int32) then vz_5 else (if (Int32.ofNat ic) = (2 : Int32) then vz_9 else vz_14))) ∧ ∀ t, Steps p.tables e below (T285.setTop (mkF m 230 #[.val (.int p1), .val (.int p2), .val (.int p3), .val (.int p4), .val (.int p5), .val vz_2, .val vz_5, .val vz_9, .val vz_14, .val (.int (3 : Int32)), .val (.ref b206), .val (.int (Int32.ofNat ic)), .val (.int (p5 &&& (7 : Int32))), .val (.ref b239), .val (.ref az_285), .val v300_0] [])) t → Steps p.tables e below (s₁.setTop (entryFrame m #[(.int p1), (.int p2), (.int p3), (.int p4), (.int p5)] maxLocals)) t := by
            refine ⟨_, rfl, ?_⟩
            intro t kt
            refine pre299 t ?_
            show Steps p.tables e below (T285.setTop (mkF m 190 #[.val (.int p1), .val (.int p2), .val (.int p3), .val (.int p4), .val (.int p5), .val vz_2, .val vz_5, .val vz_9, .val vz_14, .val (.int (3 : Int32)), .val (.ref b206), .val (.int (Int32.ofNat ic)), .val (.int (p5 &&& (7 : Int32))), .val (.ref b239), .val (.ref az_285), .unset] [(.int (Int32.ofNat ic))])) _
            by_cases hc190 : (Int32.ofNat ic) = (0 : Int32)
            · (try simp only [if_pos hc190] at kt)
              refine XS.ifNo X285.here hx rfl (hb hby at_190) rfl ((if0 _ _).trans (teq hc190).2) ?_
              show Steps p.tables e below (T285.setTop (mkF m 193 #[.val (.int p1), .val (.int p2), .val (.int p3), .val (.int p4), .val (.int p5), .val vz_2, .val vz_5, .val vz_9, .val vz_14, .val (.int (3 : Int32)), .val (.ref b206), .val (.int (Int32.ofNat ic)), .val (.int (p5 &&& (7 : Int32))), .val (.ref b239), .val (.ref az_285), .unset] [])) _
              refine XS.aload X285.here hx rfl (hb hby at_193) rfl R2_0 ?_
              show Steps p.tables e below (T285.setTop (mkF m 195 #[.val (.int p1), .val (.int p2), .val (.int p3), .val (.int p4), .val (.int p5), .val vz_2, .val vz_5, .val vz_9, .val vz_14, .val (.int (3 : Int32)), .val (.ref b206), .val (.int (Int32.ofNat ic)), .val (.int (p5 &&& (7 : Int32))), .val (.ref b239), .val (.ref az_285), .unset] [vz_2])) _
              refine XS.astore X285.here hx rfl (hb hby at_195) rfl R2_0 (l' := #[.val (.int p1), .val (.int p2), .val (.int p3), .val (.int p4), .val (.int p5), .val vz_2, .val vz_5, .val vz_9, .val vz_14, .val (.int (3 : Int32)), .val (.ref b206), .val (.int (Int32.ofNat ic)), .val (.int (p5 &&& (7 : Int32))), .val (.ref b239), .val (.ref az_285), .val vz_2]) (by rcases ref_cases R2_0 with q | ⟨_, q⟩ <;> rw [q] <;> rfl) ?_
              show Steps p.tables e below (T285.setTop (mkF m 197 #[.val (.int p1), .val (.int p2), .val (.int p3), .val (.int p4), .val (.int p5), .val vz_2, .val vz_5, .val vz_9, .val vz_14, .val (.int (3 : Int32)), .val (.ref b206), .val (.int (Int32.ofNat ic)), .val (.int (p5 &&& (7 : Int32))), .val (.ref b239), .val (.ref az_285), .val vz_2] [])) _
              refine XS.goto X285.here hx rfl (pc0 := 197) (pc' := 230) rfl (hb hby at_197) (by decide) (by decide) ?_
              exact kt
            · (try simp only [if_neg hc190] at kt)
              refine XS.ifYes X285.here hx rfl (pc0 := 190) (pc' := 200) rfl (hb hby at_190) rfl ((if0 _ _).trans (feq hc190).2) (by decide) (by decide) ?_
              show Steps p.tables e below (T285.setTop (mkF m 200 #[.val (.int p1), .val (.int p2), .val (.int p3), .val (.int p4), .val (.int p5), .val vz_2, .val vz_5, .val vz_9, .val vz_14, .val (.int (3 : Int32)), .val (.ref b206), .val (.int (Int32.ofNat ic)), .val (.int (p5 &&& (7 : Int32))), .val (.ref b239), .val (.ref az_285), .unset] [])) _
              refine XS.iload X285.here hx rfl (hb hby at_200) rfl ?_
              show Steps p.tables e below (T285.setTop (mkF m 202 #[.val (.int p1), .val (.int p2), .val (.int p3), .val (.int p4), .val (.int p5), .val vz_2, .val vz_5, .val vz_9, .val vz_14, .val (.int (3 : Int32)), .val (.ref b206), .val (.int (Int32.ofNat ic)), .val (.int (p5 &&& (7 : Int32))), .val (.ref b239), .val (.ref az_285), .unset] [(.int (Int32.ofNat ic))])) _
              refine XS.iconst X285.here hx rfl (hb hby at_202) ?_
              show Steps p.tables e below (T285.setTop (mkF m 203 #[.val (.int p1), .val (.int p2), .val (.int p3), .val (.int p4), .val (.int p5), .val vz_2, .val vz_5, .val vz_9, .val vz_14, .val (.int (3 : Int32)), .val (.ref b206), .val (.int (Int32.ofNat ic)), .val (.int (p5 &&& (7 : Int32))), .val (.ref b239), .val (.ref az_285), .unset] [(.int (1 : Int32)), (.int (Int32.ofNat ic))])) _
              by_cases hc203 : (Int32.ofNat ic) = (1 : Int32)
              · (try simp only [if_pos hc203] at kt)
                refine XS.icmpNo X285.here hx rfl (hb hby at_203) rfl (teq hc203).2 ?_
                show Steps p.tables e below (T285.setTop (mkF m 206 #[.val (.int p1), .val (.int p2), .val (.int p3), .val (.int p4), .val (.int p5), .val vz_2, .val vz_5, .val vz_9, .val vz_14, .val (.int (3 : Int32)), .val (.ref b206), .val (.int (Int32.ofNat ic)), .val (.int (p5 &&& (7 : Int32))), .val (.ref b239), .val (.ref az_285), .unset] [])) _
                refine XS.aload X285.here hx rfl (hb hby at_206) rfl R5_0 ?_
                show Steps p.tables e below (T285.setTop (mkF m 208 #[.val (.int p1), .val (.int p2), .val (.int p3), .val (.int p4), .val (.int p5), .val vz_2, .val vz_5, .val vz_9, .val vz_14, .val (.int (3 : Int32)), .val (.ref b206), .val (.int (Int32.ofNat ic)), .val (.int (p5 &&& (7 : Int32))), .val (.ref b239), .val (.ref az_285), .unset] [vz_5])) _
                refine XS.astore X285.here hx rfl (hb hby at_208) rfl R5_0 (l' := #[.val (.int p1), .val (.int p2), .val (.int p3), .val (.int p4), .val (.int p5), .val vz_2, .val vz_5, .val vz_9, .val vz_14, .val (.int (3 : Int32)), .val (.ref b206), .val (.int (Int32.ofNat ic)), .val (.int (p5 &&& (7 : Int32))), .val (.ref b239), .val (.ref az_285), .val vz_5]) (by rcases ref_cases R5_0 with q | ⟨_, q⟩ <;> rw [q] <;> rfl) ?_
                show Steps p.tables e below (T285.setTop (mkF m 210 #[.val (.int p1), .val (.int p2), .val (.int p3), .val (.int p4), .val (.int p5), .val vz_2, .val vz_5, .val vz_9, .val vz_14, .val (.int (3 : Int32)), .val (.ref b206), .val (.int (Int32.ofNat ic)), .val (.int (p5 &&& (7 : Int32))), .val (.ref b239), .val (.ref az_285), .val vz_5] [])) _
                refine XS.goto X285.here hx rfl (pc0 := 210) (pc' := 230) rfl (hb hby at_210) (by decide) (by decide) ?_
                exact kt
              · (try simp only [if_neg hc203] at kt)
                refine XS.icmpYes X285.here hx rfl (pc0 := 203) (pc' := 213) rfl (hb hby at_203) rfl (feq hc203).2 (by decide) (by decide) ?_
                show Steps p.tables e below (T285.setTop (mkF m 213 #[.val (.int p1), .val (.int p2), .val (.int p3), .val (.int p4), .val (.int p5), .val vz_2, .val vz_5, .val vz_9, .val vz_14, .val (.int (3 : Int32)), .val (.ref b206), .val (.int (Int32.ofNat ic)), .val (.int (p5 &&& (7 : Int32))), .val (.ref b239), .val (.ref az_285), .unset] [])) _
                refine XS.iload X285.here hx rfl (hb hby at_213) rfl ?_
                show Steps p.tables e below (T285.setTop (mkF m 215 #[.val (.int p1), .val (.int p2), .val (.int p3), .val (.int p4), .val (.int p5), .val vz_2, .val vz_5, .val vz_9, .val vz_14, .val (.int (3 : Int32)), .val (.ref b206), .val (.int (Int32.ofNat ic)), .val (.int (p5 &&& (7 : Int32))), .val (.ref b239), .val (.ref az_285), .unset] [(.int (Int32.ofNat ic))])) _
                refine XS.iconst X285.here hx rfl (hb hby at_215) ?_
                show Steps p.tables e below (T285.setTop (mkF m 216 #[.val (.int p1), .val (.int p2), .val (.int p3), .val (.int p4), .val (.int p5), .val vz_2, .val vz_5, .val vz_9, .val vz_14, .val (.int (3 : Int32)), .val (.ref b206), .val (.int (Int32.ofNat ic)), .val (.int (p5 &&& (7 : Int32))), .val (.ref b239), .val (.ref az_285), .unset] [(.int (2 : Int32)), (.int (Int32.ofNat ic))])) _
                by_cases hc216 : (Int32.ofNat ic) = (2 : Int32)
                · (try simp only [if_pos hc216] at kt)
                  refine XS.icmpNo X285.here hx rfl (hb hby at_216) rfl (teq hc216).2 ?_
                  show Steps p.tables e below (T285.setTop (mkF m 219 #[.val (.int p1), .val (.int p2), .val (.int p3), .val (.int p4), .val (.int p5), .val vz_2, .val vz_5, .val vz_9, .val vz_14, .val (.int (3 : Int32)), .val (.ref b206), .val (.int (Int32.ofNat ic)), .val (.int (p5 &&& (7 : Int32))), .val (.ref b239), .val (.ref az_285), .unset] [])) _
                  refine XS.aload X285.here hx rfl (hb hby at_219) rfl R9_0 ?_
                  show Steps p.tables e below (T285.setTop (mkF m 221 #[.val (.int p1), .val (.int p2), .val (.int p3), .val (.int p4), .val (.int p5), .val vz_2, .val vz_5, .val vz_9, .val vz_14, .val (.int (3 : Int32)), .val (.ref b206), .val (.int (Int32.ofNat ic)), .val (.int (p5 &&& (7 : Int32))), .val (.ref b239), .val (.ref az_285), .unset] [vz_9])) _
                  refine XS.astore X285.here hx rfl (hb hby at_221) rfl R9_0 (l' := #[.val (.int p1), .val (.int p2), .val (.int p3), .val (.int p4), .val (.int p5), .val vz_2, .val vz_5, .val vz_9, .val vz_14, .val (.int (3 : Int32)), .val (.ref b206), .val (.int (Int32.ofNat ic)), .val (.int (p5 &&& (7 : Int32))), .val (.ref b239), .val (.ref az_285), .val vz_9]) (by rcases ref_cases R9_0 with q | ⟨_, q⟩ <;> rw [q] <;> rfl) ?_
                  show Steps p.tables e below (T285.setTop (mkF m 223 #[.val (.int p1), .val (.int p2), .val (.int p3), .val (.int p4), .val (.int p5), .val vz_2, .val vz_5, .val vz_9, .val vz_14, .val (.int (3 : Int32)), .val (.ref b206), .val (.int (Int32.ofNat ic)), .val (.int (p5 &&& (7 : Int32))), .val (.ref b239), .val (.ref az_285), .val vz_9] [])) _
                  refine XS.goto X285.here hx rfl (pc0 := 223) (pc' := 230) rfl (hb hby at_223) (by decide) (by decide) ?_
                  exact kt
                · (try simp only [if_neg hc216] at kt)
                  refine XS.icmpYes X285.here hx rfl (pc0 := 216) (pc' := 226) rfl (hb hby at_216) rfl (feq hc216).2 (by decide) (by decide) ?_
                  show Steps p.tables e below (T285.setTop (mkF m 226 #[.val (.int p1), .val (.int p2), .val (.int p3), .val (.int p4), .val (.int p5), .val vz_2, .val vz_5, .val vz_9, .val vz_14, .val (.int (3 : Int32)), .val (.ref b206), .val (.int (Int32.ofNat ic)), .val (.int (p5 &&& (7 : Int32))), .val (.ref b239), .val (.ref az_285), .unset] [])) _
                  refine XS.aload X285.here hx rfl (hb hby at_226) rfl R14_0 ?_
                  show Steps p.tables e below (T285.setTop (mkF m 228 #[.val (.int p1), .val (.int p2), .val (.int p3), .val (.int p4), .val (.int p5), .val vz_2, .val vz_5, .val vz_9, .val vz_14, .val (.int (3 : Int32)), .val (.ref b206), .val (.int (Int32.ofNat ic)), .val (.int (p5 &&& (7 : Int32))), .val (.ref b239), .val (.ref az_285), .unset] [vz_14])) _
                  refine XS.astore X285.here hx rfl (hb hby at_228) rfl R14_0 (l' := #[.val (.int p1), .val (.int p2), .val (.int p3), .val (.int p4), .val (.int p5), .val vz_2, .val vz_5, .val vz_9, .val vz_14, .val (.int (3 : Int32)), .val (.ref b206), .val (.int (Int32.ofNat ic)), .val (.int (p5 &&& (7 : Int32))), .val (.ref b239), .val (.ref az_285), .val vz_14]) (by rcases ref_cases R14_0 with q | ⟨_, q⟩ <;> rw [q] <;> rfl) ?_
                  exact kt
          have hr_v300_0 : v300_0.isRef = true := by rw [hv300_0]; (repeat' split) <;> assumption
          have pre301 : ∀ t, Steps p.tables e below (T285.setTop (mkF m 252 #[.val (.int p1), .val (.int p2), .val (.int p3), .val (.int p4), .val (.int p5), .val vz_2, .val vz_5, .val vz_9, .val vz_14, .val (.int (3 : Int32)), .val (.ref b206), .val (.int (Int32.ofNat ic)), .val (.int (p5 &&& (7 : Int32))), .val (.ref b239), .val (.ref az_285), .val v300_0] [(.ref az_285)])) t → Steps p.tables e below (s₁.setTop (entryFrame m #[(.int p1), (.int p2), (.int p3), (.int p4), (.int p5)] maxLocals)) t := by
            intro t kt
            refine pre300 t ?_
            show Steps p.tables e below (T285.setTop (mkF m 230 #[.val (.int p1), .val (.int p2), .val (.int p3), .val (.int p4), .val (.int p5), .val vz_2, .val vz_5, .val vz_9, .val vz_14, .val (.int (3 : Int32)), .val (.ref b206), .val (.int (Int32.ofNat ic)), .val (.int (p5 &&& (7 : Int32))), .val (.ref b239), .val (.ref az_285), .val v300_0] [])) _
            refine XS.iload X285.here hx rfl (hb hby at_230) rfl ?_
            show Steps p.tables e below (T285.setTop (mkF m 232 #[.val (.int p1), .val (.int p2), .val (.int p3), .val (.int p4), .val (.int p5), .val vz_2, .val vz_5, .val vz_9, .val vz_14, .val (.int (3 : Int32)), .val (.ref b206), .val (.int (Int32.ofNat ic)), .val (.int (p5 &&& (7 : Int32))), .val (.ref b239), .val (.ref az_285), .val v300_0] [(.int (Int32.ofNat ic))])) _
            refine XS.iload X285.here hx rfl (hb hby at_232) rfl ?_
            show Steps p.tables e below (T285.setTop (mkF m 234 #[.val (.int p1), .val (.int p2), .val (.int p3), .val (.int p4), .val (.int p5), .val vz_2, .val vz_5, .val vz_9, .val vz_14, .val (.int (3 : Int32)), .val (.ref b206), .val (.int (Int32.ofNat ic)), .val (.int (p5 &&& (7 : Int32))), .val (.ref b239), .val (.ref az_285), .val v300_0] [(.int (p5 &&& (7 : Int32))), (.int (Int32.ofNat ic))])) _
            refine XS.icmpYes X285.here hx rfl (pc0 := 234) (pc' := 250) rfl (hb hby at_234) rfl (flt hsz).2.1 (by decide) (by decide) ?_
            show Steps p.tables e below (T285.setTop (mkF m 250 #[.val (.int p1), .val (.int p2), .val (.int p3), .val (.int p4), .val (.int p5), .val vz_2, .val vz_5, .val vz_9, .val vz_14, .val (.int (3 : Int32)), .val (.ref b206), .val (.int (Int32.ofNat ic)), .val (.int (p5 &&& (7 : Int32))), .val (.ref b239), .val (.ref az_285), .val v300_0] [])) _
            refine XS.aload X285.here hx rfl (hb hby at_250) rfl rfl ?_
            exact kt
          have pre302 : ∀ t, Steps p.tables e below (T285.setTop (mkF m 255 #[.val (.int p1), .val (.int p2), .val (.int p3), .val (.int p4), .val (.int p5), .val vz_2, .val vz_5, .val vz_9, .val vz_14, .val (.int (3 : Int32)), .val (.ref b206), .val (.int (Int32.ofNat ic)), .val (.int (p5 &&& (7 : Int32))), .val (.ref b239), .val (.ref az_285), .val v300_0] [])) t → Steps p.tables e below (s₁.setTop (entryFrame m #[(.int p1), (.int p2), (.int p3), (.int p4), (.int p5)] maxLocals)) t := fun t kt => pre301 t (XS.ifnullNo X285.here hx rfl (hb hby at_252) rfl kt)
          have pre303 : ∀ t, Steps p.tables e below (T285.setTop (mkF m 257 #[.val (.int p1), .val (.int p2), .val (.int p3), .val (.int p4), .val (.int p5), .val vz_2, .val vz_5, .val vz_9, .val vz_14, .val (.int (3 : Int32)), .val (.ref b206), .val (.int (Int32.ofNat ic)), .val (.int (p5 &&& (7 : Int32))), .val (.ref b239), .val (.ref az_285), .val v300_0] [(.ref az_285)])) t → Steps p.tables e below (s₁.setTop (entryFrame m #[(.int p1), (.int p2), (.int p3), (.int p4), (.int p5)] maxLocals)) t := by
            intro t kt
            refine pre302 t ?_
            show Steps p.tables e below (T285.setTop (mkF m 255 #[.val (.int p1), .val (.int p2), .val (.int p3), .val (.int p4), .val (.int p5), .val vz_2, .val vz_5, .val vz_9, .val vz_14, .val (.int (3 : Int32)), .val (.ref b206), .val (.int (Int32.ofNat ic)), .val (.int (p5 &&& (7 : Int32))), .val (.ref b239), .val (.ref az_285), .val v300_0] [])) _
            refine XS.aload X285.here hx rfl (hb hby at_255) rfl rfl ?_
            exact kt
          obtain ⟨cq304, kq304, q304a, q304b, q304c⟩ := isOf hZ rfl E_az_285_285
          obtain ⟨_, _, ⟨T304, L304, k304, n304⟩, -, X304, ⟨Lc304, hQ304, l304, y304, z304⟩, st304⟩ := X285.virtualBack hx (y := (⟨"java/lang/String", "isEmpty", "()Z"⟩ : MethodName)) (z := (⟨"java/lang/String", "isEmpty", "()Z"⟩ : MethodName)) hown (mvT hZ (hw _ (List.mem_of_getElem? (i := 67) rfl))) (mvT hZ (hw _ (List.mem_of_getElem? (i := 68) rfl))) (notFace_of_selects (args := #[]) (mvT hZ (hw _ (List.mem_of_getElem? (i := 70) rfl)))) (mvT hZ (hw _ (List.mem_of_getElem? (i := 70) rfl))) (mvT hZ (hw _ (List.mem_of_getElem? (i := 69) rfl))) (by decide) (backOf (W := 0) (rm11 l Z a0 hw [] az_285 tz_285 kz_285 ((own_cs66.map fun c => c.toInt8.toInt32).map Value.int) T285.heap n0 Z285 F_value_az_285_285 V_tz_285_285) hZ (hw _ (List.mem_of_getElem? (i := 71) rfl)) (hw _ (List.mem_of_getElem? (i := 6) rfl)) (by decide) (by decide)) q304a q304c (g := (mkF m 257 #[.val (.int p1), .val (.int p2), .val (.int p3), .val (.int p4), .val (.int p5), .val vz_2, .val vz_5, .val vz_9, .val vz_14, .val (.int (3 : Int32)), .val (.ref b206), .val (.int (Int32.ofNat ic)), .val (.int (p5 &&& (7 : Int32))), .val (.ref b239), .val (.ref az_285), .val v300_0] [(.ref az_285)])) rfl (by rw [hml]; rfl) (Steps.refl _) (argsL := []) (rest := []) (lenOf pd_9 rfl) rfl (by show 2 * 0 + _ ≤ _; exact Nat.le_of_eq rfl) (hb hby at_257) (fun _ _ => ⟨rfl, rfl, (by decide : 14 + 0 ≤ _), (by decide : 40 + 0 ≤ _)⟩)
          dsimp only [Pt.U, Pt.locs, Pt.cells, Pt.slots] at X304 l304 y304 z304 st304 hQ304
          subst l304 y304 z304
          obtain ⟨rfl, N304q, e304⟩ := hQ304
          have N304 := Fr.app N285 N304q
          have pre304 : ∀ t, Steps p.tables e below (T304.setTop (mkF m 260 #[.val (.int p1), .val (.int p2), .val (.int p3), .val (.int p4), .val (.int p5), .val vz_2, .val vz_5, .val vz_9, .val vz_14, .val (.int (3 : Int32)), .val (.ref b206), .val (.int (Int32.ofNat ic)), .val (.int (p5 &&& (7 : Int32))), .val (.ref b239), .val (.ref az_285), .val v300_0] [(.int (1 : Int32))])) t → Steps p.tables e below (s₁.setTop (entryFrame m #[(.int p1), (.int p2), (.int p3), (.int p4), (.int p5)] maxLocals)) t := fun t kt => pre303 t (st304.trans kt)
          have pre305 : ∀ t, Steps p.tables e below (T304.setTop (mkF m 268 #[.val (.int p1), .val (.int p2), .val (.int p3), .val (.int p4), .val (.int p5), .val vz_2, .val vz_5, .val vz_9, .val vz_14, .val (.int (3 : Int32)), .val (.ref b206), .val (.int (Int32.ofNat ic)), .val (.int (p5 &&& (7 : Int32))), .val (.ref b239), .val (.ref az_285), .val v300_0] [(.int (1 : Int32))])) t → Steps p.tables e below (s₁.setTop (entryFrame m #[(.int p1), (.int p2), (.int p3), (.int p4), (.int p5)] maxLocals)) t := by
            intro t kt
            refine pre304 t ?_
            show Steps p.tables e below (T304.setTop (mkF m 260 #[.val (.int p1), .val (.int p2), .val (.int p3), .val (.int p4), .val (.int p5), .val vz_2, .val vz_5, .val vz_9, .val vz_14, .val (.int (3 : Int32)), .val (.ref b206), .val (.int (Int32.ofNat ic)), .val (.int (p5 &&& (7 : Int32))), .val (.ref b239), .val (.ref az_285), .val v300_0] [(.int (1 : Int32))])) _
            refine XS.ifNo X304.here hx rfl (hb hby at_260) rfl ((if0 _ _).trans (feq (by decide)).1) ?_
            show Steps p.tables e below (T304.setTop (mkF m 263 #[.val (.int p1), .val (.int p2), .val (.int p3), .val (.int p4), .val (.int p5), .val vz_2, .val vz_5, .val vz_9, .val vz_14, .val (.int (3 : Int32)), .val (.ref b206), .val (.int (Int32.ofNat ic)), .val (.int (p5 &&& (7 : Int32))), .val (.ref b239), .val (.ref az_285), .val v300_0] [])) _
            refine XS.iconst X304.here hx rfl (hb hby at_263) ?_
            show Steps p.tables e below (T304.setTop (mkF m 264 #[.val (.int p1), .val (.int p2), .val (.int p3), .val (.int p4), .val (.int p5), .val vz_2, .val vz_5, .val vz_9, .val vz_14, .val (.int (3 : Int32)), .val (.ref b206), .val (.int (Int32.ofNat ic)), .val (.int (p5 &&& (7 : Int32))), .val (.ref b239), .val (.ref az_285), .val v300_0] [(.int (1 : Int32))])) _
            refine XS.goto X304.here hx rfl (pc0 := 264) (pc' := 268) rfl (hb hby at_264) (by decide) (by decide) ?_
            exact kt
          obtain ⟨fs, hr, hrun, hended, hEnd⟩ := X304.leaveW (s := s) (vm₁ := T285.vm) hS285 (by rw [e304]; exact (Nat.le_refl T285.heap.size)) (v := some (.int (1 : Int32))) (fun h => by rw [Bd.returns] at h; cases h)
          refine ⟨_, _, pre305 _ ?_, hrun, hended, _, _, rfl, ?_, hEnd.1, hEnd.2.1, hEnd.2.2.1, hEnd.2.2.2.mono (by decide) (by decide)⟩
          · show Steps p.tables e below (T304.setTop (mkF m 268 #[.val (.int p1), .val (.int p2), .val (.int p3), .val (.int p4), .val (.int p5), .val vz_2, .val vz_5, .val vz_9, .val vz_14, .val (.int (3 : Int32)), .val (.ref b206), .val (.int (Int32.ofNat ic)), .val (.int (p5 &&& (7 : Int32))), .val (.ref b239), .val (.ref az_285), .val v300_0] [(.int (1 : Int32))])) _
            exact retN X304 hx (t := .boolean) Bd.returns (by simp) (hb hby at_268) hr
          · show Q0 n0 _ T304.heap _
            rw [e304]
            exact ⟨rfl, N304⟩
      · have pre306 : ∀ t, Steps p.tables e below (T14.setTop (mkF m 120 #[.val (.int p1), .val (.int p2), .val (.int p3), .val (.int p4), .val (.int p5), .val vz_2, .val vz_5, .val vz_9, .val vz_14, .val (.int ((1 : Int32) + (p3 &&& (3 : Int32)))), .unset, .unset, .unset, .unset, .unset, .unset] [])) t → Steps p.tables e below (s₁.setTop (entryFrame m #[(.int p1), (.int p2), (.int p3), (.int p4), (.int p5)] maxLocals)) t := by
          intro t kt
          refine pre203 t ?_
          show Steps p.tables e below (T14.setTop (mkF m 93 #[.val (.int p1), .val (.int p2), .val (.int p3), .val (.int p4), .val (.int p5), .val vz_2, .val vz_5, .val vz_9, .val vz_14, .val (.int ((1 : Int32) + (p3 &&& (3 : Int32)))), .unset, .unset, .unset, .unset, .unset, .unset] [(.int (3 : Int32)), (.int ((1 : Int32) + (p3 &&& (3 : Int32))))])) _
          refine XS.icmpYes X14.here hx rfl (pc0 := 93) (pc' := 120) rfl (hb hby at_93) rfl (feq hc93).2 (by decide) (by decide) ?_
          exact kt
        have pre307 : ∀ t, Steps p.tables e below (T14.setTop (mkF m 121 #[.val (.int p1), .val (.int p2), .val (.int p3), .val (.int p4), .val (.int p5), .val vz_2, .val vz_5, .val vz_9, .val vz_14, .val (.int ((1 : Int32) + (p3 &&& (3 : Int32)))), .unset, .unset, .unset, .unset, .unset, .unset] [(.int (4 : Int32))])) t → Steps p.tables e below (s₁.setTop (entryFrame m #[(.int p1), (.int p2), (.int p3), (.int p4), (.int p5)] maxLocals)) t := by
          intro t kt
          refine pre306 t ?_
          show Steps p.tables e below (T14.setTop (mkF m 120 #[.val (.int p1), .val (.int p2), .val (.int p3), .val (.int p4), .val (.int p5), .val vz_2, .val vz_5, .val vz_9, .val vz_14, .val (.int ((1 : Int32) + (p3 &&& (3 : Int32)))), .unset, .unset, .unset, .unset, .unset, .unset] [])) _
          refine XS.iconst X14.here hx rfl (hb hby at_120) ?_
          exact kt
        obtain ⟨T308, h308, k308, X308, e308, E308, A308, O308, st308⟩ := newR X14 hx hZ hown (hw _ (List.mem_of_getElem? (i := 30) rfl)) (hw _ (List.mem_of_getElem? (i := 31) rfl)) rfl (g := (mkF m 121 #[.val (.int p1), .val (.int p2), .val (.int p3), .val (.int p4), .val (.int p5), .val vz_2, .val vz_5, .val vz_9, .val vz_14, .val (.int ((1 : Int32) + (p3 &&& (3 : Int32)))), .unset, .unset, .unset, .unset, .unset, .unset] [(.int (4 : Int32))])) rfl (hb hby at_121) rfl (by decide) (cap := 4) (by decide) (by decide) (by decide) (by decide)
        obtain ⟨b308, g308⟩ : ∃ z, z = T14.heap.size := ⟨_, rfl⟩
        have g_b308 : n0 ≤ b308 := Nat.le_trans Z14 (Nat.le_of_eq g308.symm)
        have sz_b308 : h0.size ≤ b308 := Nat.le_trans K14.1 (Nat.le_of_eq g308.symm)
        rw [← g308] at A308 st308
        have K308 : Keep h0 h308 [] := K14.ext E308
        have Z308 : n0 ≤ h308.size := Nat.le_trans Z14 E308.1
        have mo308_0 := Nat.le_trans mo14_0 E308.1
        have CR308 := CR14.trans (CHr.ext E308 CR14.1)
        have SCS_309 := SCS_15.ext E308
        have SS_vz_2_2_310 := own_Sext SS_vz_2_2_16 E308
        have SS_vz_5_5_311 := own_Sext SS_vz_5_5_17 E308
        have SS_vz_9_9_312 := own_Sext SS_vz_9_9_18 E308
        have SS_vz_14_14_313 := own_Sext SS_vz_14_14 E308
        have V_b308 : Arv Z h308 b308 k308 (.object "java/lang/String") (4 : Int32) [.null, .null, .null, .null] .null := (Arv.new A308 (by decide)).pad (pad_rep [] .null 4)
        have pre308 : ∀ t, Steps p.tables e below (T308.setTop (mkF m 124 #[.val (.int p1), .val (.int p2), .val (.int p3), .val (.int p4), .val (.int p5), .val vz_2, .val vz_5, .val vz_9, .val vz_14, .val (.int ((1 : Int32) + (p3 &&& (3 : Int32)))), .unset, .unset, .unset, .unset, .unset, .unset] [(.ref b308)])) t → Steps p.tables e below (s₁.setTop (entryFrame m #[(.int p1), (.int p2), (.int p3), (.int p4), (.int p5)] maxLocals)) t := fun t kt => pre307 t (st308 _ kt)
        have pre314 : ∀ t, Steps p.tables e below (T308.setTop (mkF m 128 #[.val (.int p1), .val (.int p2), .val (.int p3), .val (.int p4), .val (.int p5), .val vz_2, .val vz_5, .val vz_9, .val vz_14, .val (.int ((1 : Int32) + (p3 &&& (3 : Int32)))), .unset, .unset, .unset, .unset, .unset, .unset] [vz_2, (.int (0 : Int32)), (.ref b308), (.ref b308)])) t → Steps p.tables e below (s₁.setTop (entryFrame m #[(.int p1), (.int p2), (.int p3), (.int p4), (.int p5)] maxLocals)) t := by
          intro t kt
          refine pre308 t ?_
          show Steps p.tables e below (T308.setTop (mkF m 124 #[.val (.int p1), .val (.int p2), .val (.int p3), .val (.int p4), .val (.int p5), .val vz_2, .val vz_5, .val vz_9, .val vz_14, .val (.int ((1 : Int32) + (p3 &&& (3 : Int32)))), .unset, .unset, .unset, .unset, .unset, .unset] [(.ref b308)])) _
          refine XS.dup X308.here hx rfl (hb hby at_124) rfl rfl ?_
          show Steps p.tables e below (T308.setTop (mkF m 125 #[.val (.int p1), .val (.int p2), .val (.int p3), .val (.int p4), .val (.int p5), .val vz_2, .val vz_5, .val vz_9, .val vz_14, .val (.int ((1 : Int32) + (p3 &&& (3 : Int32)))), .unset, .unset, .unset, .unset, .unset, .unset] [(.ref b308), (.ref b308)])) _
          refine XS.iconst X308.here hx rfl (hb hby at_125) ?_
          show Steps p.tables e below (T308.setTop (mkF m 126 #[.val (.int p1), .val (.int p2), .val (.int p3), .val (.int p4), .val (.int p5), .val vz_2, .val vz_5, .val vz_9, .val vz_14, .val (.int ((1 : Int32) + (p3 &&& (3 : Int32)))), .unset, .unset, .unset, .unset, .unset, .unset] [(.int (0 : Int32)), (.ref b308), (.ref b308)])) _
          refine XS.aload X308.here hx rfl (hb hby at_126) rfl R2_0 ?_
          exact kt
        obtain ⟨cl315, Ar315, q315, S315, M315, H315, G315⟩ := (id V_b308)
        have hin315 : ¬ ((0 : Int32) < 0 ∨ cl315.slots.size ≤ ((0 : Int32)).toNatClampNeg) := inb_of S315 ⟨by decide, by decide⟩
        obtain ⟨T315, h315, X315, e315, W315, st315⟩ := stR X308 hx hZ e308 Ar315 (j := (0 : Int32)) hin315 rfl (own_sto Ar315 q315 O308 SS_vz_2_2_310) (g := (mkF m 128 #[.val (.int p1), .val (.int p2), .val (.int p3), .val (.int p4), .val (.int p5), .val vz_2, .val vz_5, .val vz_9, .val vz_14, .val (.int ((1 : Int32) + (p3 &&& (3 : Int32)))), .unset, .unset, .unset, .unset, .unset, .unset] [vz_2, (.int (0 : Int32)), (.ref b308), (.ref b308)])) rfl rfl (hb hby at_128)
        have V_b308_315 := Arv.set Ar315 q315 S315 M315 H315 G315 (own_fits R2_0) W315 0 rfl (Nat.le_of_ble_eq_true rfl)
        have N315 := Fr.snoc X315 N14 g_b308
        have K315 : Keep h0 h315 [] := K308.wr W315 (Or.inr sz_b308)
        have Z315 : n0 ≤ h315.size := Nat.le_trans Z308 (Keep.of_wr W315).1
        have mo315_0 := Nat.le_trans mo308_0 (Keep.of_wr W315).1
        have CR315 := CR308.trans (CHr.wr W315 (Safe.arv (hZ.alike) V_b308 (by decide)) CR308.1)
        have SCS_316 := SCS_309.wr W315
        have SS_vz_2_2_317 := own_Swr SS_vz_2_2_310 W315
        have SS_vz_5_5_318 := own_Swr SS_vz_5_5_311 W315
        have SS_vz_9_9_319 := own_Swr SS_vz_9_9_312 W315
        have SS_vz_14_14_320 := own_Swr SS_vz_14_14_313 W315
        have V_b308_315' : Arv Z h315 b308 k308 (.object "java/lang/String") (4 : Int32) [vz_2, .null, .null, .null] .null := V_b308_315
        have pre315 : ∀ t, Steps p.tables e below (T315.setTop (mkF m 129 #[.val (.int p1), .val (.int p2), .val (.int p3), .val (.int p4), .val (.int p5), .val vz_2, .val vz_5, .val vz_9, .val vz_14, .val (.int ((1 : Int32) + (p3 &&& (3 : Int32)))), .unset, .unset, .unset, .unset, .unset, .unset] [(.ref b308)])) t → Steps p.tables e below (s₁.setTop (entryFrame m #[(.int p1), (.int p2), (.int p3), (.int p4), (.int p5)] maxLocals)) t := fun t kt => pre314 t (st315 _ kt)
        have pre322 : ∀ t, Steps p.tables e below (T315.setTop (mkF m 133 #[.val (.int p1), .val (.int p2), .val (.int p3), .val (.int p4), .val (.int p5), .val vz_2, .val vz_5, .val vz_9, .val vz_14, .val (.int ((1 : Int32) + (p3 &&& (3 : Int32)))), .unset, .unset, .unset, .unset, .unset, .unset] [vz_5, (.int (1 : Int32)), (.ref b308), (.ref b308)])) t → Steps p.tables e below (s₁.setTop (entryFrame m #[(.int p1), (.int p2), (.int p3), (.int p4), (.int p5)] maxLocals)) t := by
          intro t kt
          refine pre315 t ?_
          show Steps p.tables e below (T315.setTop (mkF m 129 #[.val (.int p1), .val (.int p2), .val (.int p3), .val (.int p4), .val (.int p5), .val vz_2, .val vz_5, .val vz_9, .val vz_14, .val (.int ((1 : Int32) + (p3 &&& (3 : Int32)))), .unset, .unset, .unset, .unset, .unset, .unset] [(.ref b308)])) _
          refine XS.dup X315.here hx rfl (hb hby at_129) rfl rfl ?_
          show Steps p.tables e below (T315.setTop (mkF m 130 #[.val (.int p1), .val (.int p2), .val (.int p3), .val (.int p4), .val (.int p5), .val vz_2, .val vz_5, .val vz_9, .val vz_14, .val (.int ((1 : Int32) + (p3 &&& (3 : Int32)))), .unset, .unset, .unset, .unset, .unset, .unset] [(.ref b308), (.ref b308)])) _
          refine XS.iconst X315.here hx rfl (hb hby at_130) ?_
          show Steps p.tables e below (T315.setTop (mkF m 131 #[.val (.int p1), .val (.int p2), .val (.int p3), .val (.int p4), .val (.int p5), .val vz_2, .val vz_5, .val vz_9, .val vz_14, .val (.int ((1 : Int32) + (p3 &&& (3 : Int32)))), .unset, .unset, .unset, .unset, .unset, .unset] [(.int (1 : Int32)), (.ref b308), (.ref b308)])) _
          refine XS.aload X315.here hx rfl (hb hby at_131) rfl R5_0 ?_
          exact kt
        obtain ⟨cl323, Ar323, q323, S323, M323, H323, G323⟩ := (id V_b308_315')
        have hin323 : ¬ ((1 : Int32) < 0 ∨ cl323.slots.size ≤ ((1 : Int32)).toNatClampNeg) := inb_of S323 ⟨by decide, by decide⟩
        obtain ⟨T323, h323, X323, e323, W323, st323⟩ := stR X315 hx hZ e315 Ar323 (j := (1 : Int32)) hin323 rfl (own_sto Ar323 q323 O308 SS_vz_5_5_318) (g := (mkF m 133 #[.val (.int p1), .val (.int p2), .val (.int p3), .val (.int p4), .val (.int p5), .val vz_2, .val vz_5, .val vz_9, .val vz_14, .val (.int ((1 : Int32) + (p3 &&& (3 : Int32)))), .unset, .unset, .unset, .unset, .unset, .unset] [vz_5, (.int (1 : Int32)), (.ref b308), (.ref b308)])) rfl rfl (hb hby at_133)
        have V_b308_323 := Arv.set Ar323 q323 S323 M323 H323 G323 (own_fits R5_0) W323 1 rfl (Nat.le_of_ble_eq_true rfl)
        have N323 := Fr.snoc X323 N315 g_b308
        have K323 : Keep h0 h323 [] := K315.wr W323 (Or.inr sz_b308)
        have Z323 : n0 ≤ h323.size := Nat.le_trans Z315 (Keep.of_wr W323).1
        have mo323_0 := Nat.le_trans mo315_0 (Keep.of_wr W323).1
        have CR323 := CR315.trans (CHr.wr W323 (Safe.arv (hZ.alike) V_b308_315' (by decide)) CR315.1)
        have SCS_324 := SCS_316.wr W323
        have SS_vz_2_2_325 := own_Swr SS_vz_2_2_317 W323
        have SS_vz_5_5_326 := own_Swr SS_vz_5_5_318 W323
        have SS_vz_9_9_327 := own_Swr SS_vz_9_9_319 W323
        have SS_vz_14_14_328 := own_Swr SS_vz_14_14_320 W323
        have V_b308_323' : Arv Z h323 b308 k308 (.object "java/lang/String") (4 : Int32) [vz_2, vz_5, .null, .null] .null := V_b308_323
        have pre323 : ∀ t, Steps p.tables e below (T323.setTop (mkF m 134 #[.val (.int p1), .val (.int p2), .val (.int p3), .val (.int p4), .val (.int p5), .val vz_2, .val vz_5, .val vz_9, .val vz_14, .val (.int ((1 : Int32) + (p3 &&& (3 : Int32)))), .unset, .unset, .unset, .unset, .unset, .unset] [(.ref b308)])) t → Steps p.tables e below (s₁.setTop (entryFrame m #[(.int p1), (.int p2), (.int p3), (.int p4), (.int p5)] maxLocals)) t := fun t kt => pre322 t (st323 _ kt)
        have pre330 : ∀ t, Steps p.tables e below (T323.setTop (mkF m 138 #[.val (.int p1), .val (.int p2), .val (.int p3), .val (.int p4), .val (.int p5), .val vz_2, .val vz_5, .val vz_9, .val vz_14, .val (.int ((1 : Int32) + (p3 &&& (3 : Int32)))), .unset, .unset, .unset, .unset, .unset, .unset] [vz_9, (.int (2 : Int32)), (.ref b308), (.ref b308)])) t → Steps p.tables e below (s₁.setTop (entryFrame m #[(.int p1), (.int p2), (.int p3), (.int p4), (.int p5)] maxLocals)) t := by
          intro t kt
          refine pre323 t ?_
          show Steps p.tables e below (T323.setTop (mkF m 134 #[.val (.int p1), .val (.int p2), .val (.int p3), .val (.int p4), .val (.int p5), .val vz_2, .val vz_5, .val vz_9, .val vz_14, .val (.int ((1 : Int32) + (p3 &&& (3 : Int32)))), .unset, .unset, .unset, .unset, .unset, .unset] [(.ref b308)])) _
          refine XS.dup X323.here hx rfl (hb hby at_134) rfl rfl ?_
          show Steps p.tables e below (T323.setTop (mkF m 135 #[.val (.int p1), .val (.int p2), .val (.int p3), .val (.int p4), .val (.int p5), .val vz_2, .val vz_5, .val vz_9, .val vz_14, .val (.int ((1 : Int32) + (p3 &&& (3 : Int32)))), .unset, .unset, .unset, .unset, .unset, .unset] [(.ref b308), (.ref b308)])) _
          refine XS.iconst X323.here hx rfl (hb hby at_135) ?_
          show Steps p.tables e below (T323.setTop (mkF m 136 #[.val (.int p1), .val (.int p2), .val (.int p3), .val (.int p4), .val (.int p5), .val vz_2, .val vz_5, .val vz_9, .val vz_14, .val (.int ((1 : Int32) + (p3 &&& (3 : Int32)))), .unset, .unset, .unset, .unset, .unset, .unset] [(.int (2 : Int32)), (.ref b308), (.ref b308)])) _
          refine XS.aload X323.here hx rfl (hb hby at_136) rfl R9_0 ?_
          exact kt
        obtain ⟨cl331, Ar331, q331, S331, M331, H331, G331⟩ := (id V_b308_323')
        have hin331 : ¬ ((2 : Int32) < 0 ∨ cl331.slots.size ≤ ((2 : Int32)).toNatClampNeg) := inb_of S331 ⟨by decide, by decide⟩
        obtain ⟨T331, h331, X331, e331, W331, st331⟩ := stR X323 hx hZ e323 Ar331 (j := (2 : Int32)) hin331 rfl (own_sto Ar331 q331 O308 SS_vz_9_9_327) (g := (mkF m 138 #[.val (.int p1), .val (.int p2), .val (.int p3), .val (.int p4), .val (.int p5), .val vz_2, .val vz_5, .val vz_9, .val vz_14, .val (.int ((1 : Int32) + (p3 &&& (3 : Int32)))), .unset, .unset, .unset, .unset, .unset, .unset] [vz_9, (.int (2 : Int32)), (.ref b308), (.ref b308)])) rfl rfl (hb hby at_138)
        have V_b308_331 := Arv.set Ar331 q331 S331 M331 H331 G331 (own_fits R9_0) W331 2 rfl (Nat.le_of_ble_eq_true rfl)
        have N331 := Fr.snoc X331 N323 g_b308
        have K331 : Keep h0 h331 [] := K323.wr W331 (Or.inr sz_b308)
        have Z331 : n0 ≤ h331.size := Nat.le_trans Z323 (Keep.of_wr W331).1
        have mo331_0 := Nat.le_trans mo323_0 (Keep.of_wr W331).1
        have CR331 := CR323.trans (CHr.wr W331 (Safe.arv (hZ.alike) V_b308_323' (by decide)) CR323.1)
        have SCS_332 := SCS_324.wr W331
        have SS_vz_2_2_333 := own_Swr SS_vz_2_2_325 W331
        have SS_vz_5_5_334 := own_Swr SS_vz_5_5_326 W331
        have SS_vz_9_9_335 := own_Swr SS_vz_9_9_327 W331
        have SS_vz_14_14_336 := own_Swr SS_vz_14_14_328 W331
        have V_b308_331' : Arv Z h331 b308 k308 (.object "java/lang/String") (4 : Int32) [vz_2, vz_5, vz_9, .null] .null := V_b308_331
        have pre331 : ∀ t, Steps p.tables e below (T331.setTop (mkF m 139 #[.val (.int p1), .val (.int p2), .val (.int p3), .val (.int p4), .val (.int p5), .val vz_2, .val vz_5, .val vz_9, .val vz_14, .val (.int ((1 : Int32) + (p3 &&& (3 : Int32)))), .unset, .unset, .unset, .unset, .unset, .unset] [(.ref b308)])) t → Steps p.tables e below (s₁.setTop (entryFrame m #[(.int p1), (.int p2), (.int p3), (.int p4), (.int p5)] maxLocals)) t := fun t kt => pre330 t (st331 _ kt)
        have pre338 : ∀ t, Steps p.tables e below (T331.setTop (mkF m 143 #[.val (.int p1), .val (.int p2), .val (.int p3), .val (.int p4), .val (.int p5), .val vz_2, .val vz_5, .val vz_9, .val vz_14, .val (.int ((1 : Int32) + (p3 &&& (3 : Int32)))), .unset, .unset, .unset, .unset, .unset, .unset] [vz_14, (.int (3 : Int32)), (.ref b308), (.ref b308)])) t → Steps p.tables e below (s₁.setTop (entryFrame m #[(.int p1), (.int p2), (.int p3), (.int p4), (.int p5)] maxLocals)) t := by
          intro t kt
          refine pre331 t ?_
          show Steps p.tables e below (T331.setTop (mkF m 139 #[.val (.int p1), .val (.int p2), .val (.int p3), .val (.int p4), .val (.int p5), .val vz_2, .val vz_5, .val vz_9, .val vz_14, .val (.int ((1 : Int32) + (p3 &&& (3 : Int32)))), .unset, .unset, .unset, .unset, .unset, .unset] [(.ref b308)])) _
          refine XS.dup X331.here hx rfl (hb hby at_139) rfl rfl ?_
          show Steps p.tables e below (T331.setTop (mkF m 140 #[.val (.int p1), .val (.int p2), .val (.int p3), .val (.int p4), .val (.int p5), .val vz_2, .val vz_5, .val vz_9, .val vz_14, .val (.int ((1 : Int32) + (p3 &&& (3 : Int32)))), .unset, .unset, .unset, .unset, .unset, .unset] [(.ref b308), (.ref b308)])) _
          refine XS.iconst X331.here hx rfl (hb hby at_140) ?_
          show Steps p.tables e below (T331.setTop (mkF m 141 #[.val (.int p1), .val (.int p2), .val (.int p3), .val (.int p4), .val (.int p5), .val vz_2, .val vz_5, .val vz_9, .val vz_14, .val (.int ((1 : Int32) + (p3 &&& (3 : Int32)))), .unset, .unset, .unset, .unset, .unset, .unset] [(.int (3 : Int32)), (.ref b308), (.ref b308)])) _
          refine XS.aload X331.here hx rfl (hb hby at_141) rfl R14_0 ?_
          exact kt
        obtain ⟨cl339, Ar339, q339, S339, M339, H339, G339⟩ := (id V_b308_331')
        have hin339 : ¬ ((3 : Int32) < 0 ∨ cl339.slots.size ≤ ((3 : Int32)).toNatClampNeg) := inb_of S339 ⟨by decide, by decide⟩
        obtain ⟨T339, h339, X339, e339, W339, st339⟩ := stR X331 hx hZ e331 Ar339 (j := (3 : Int32)) hin339 rfl (own_sto Ar339 q339 O308 SS_vz_14_14_336) (g := (mkF m 143 #[.val (.int p1), .val (.int p2), .val (.int p3), .val (.int p4), .val (.int p5), .val vz_2, .val vz_5, .val vz_9, .val vz_14, .val (.int ((1 : Int32) + (p3 &&& (3 : Int32)))), .unset, .unset, .unset, .unset, .unset, .unset] [vz_14, (.int (3 : Int32)), (.ref b308), (.ref b308)])) rfl rfl (hb hby at_143)
        have V_b308_339 := Arv.set Ar339 q339 S339 M339 H339 G339 (own_fits R14_0) W339 3 rfl (Nat.le_of_ble_eq_true rfl)
        have N339 := Fr.snoc X339 N331 g_b308
        have K339 : Keep h0 h339 [] := K331.wr W339 (Or.inr sz_b308)
        have Z339 : n0 ≤ h339.size := Nat.le_trans Z331 (Keep.of_wr W339).1
        have mo339_0 := Nat.le_trans mo331_0 (Keep.of_wr W339).1
        have CR339 := CR331.trans (CHr.wr W339 (Safe.arv (hZ.alike) V_b308_331' (by decide)) CR331.1)
        have SCS_340 := SCS_332.wr W339
        have SS_vz_2_2_341 := own_Swr SS_vz_2_2_333 W339
        have SS_vz_5_5_342 := own_Swr SS_vz_5_5_334 W339
        have SS_vz_9_9_343 := own_Swr SS_vz_9_9_335 W339
        have SS_vz_14_14_344 := own_Swr SS_vz_14_14_336 W339
        have V_b308_339' : Arv Z h339 b308 k308 (.object "java/lang/String") (4 : Int32) [vz_2, vz_5, vz_9, vz_14] .null := V_b308_339
        have pre339 : ∀ t, Steps p.tables e below (T339.setTop (mkF m 144 #[.val (.int p1), .val (.int p2), .val (.int p3), .val (.int p4), .val (.int p5), .val vz_2, .val vz_5, .val vz_9, .val vz_14, .val (.int ((1 : Int32) + (p3 &&& (3 : Int32)))), .unset, .unset, .unset, .unset, .unset, .unset] [(.ref b308)])) t → Steps p.tables e below (s₁.setTop (entryFrame m #[(.int p1), (.int p2), (.int p3), (.int p4), (.int p5)] maxLocals)) t := fun t kt => pre338 t (st339 _ kt)
        have pre346 : ∀ t, Steps p.tables e below (T339.setTop (mkF m 146 #[.val (.int p1), .val (.int p2), .val (.int p3), .val (.int p4), .val (.int p5), .val vz_2, .val vz_5, .val vz_9, .val vz_14, .val (.int ((1 : Int32) + (p3 &&& (3 : Int32)))), .val (.ref b308), .unset, .unset, .unset, .unset, .unset] [])) t → Steps p.tables e below (s₁.setTop (entryFrame m #[(.int p1), (.int p2), (.int p3), (.int p4), (.int p5)] maxLocals)) t := by
          intro t kt
          refine pre339 t ?_
          show Steps p.tables e below (T339.setTop (mkF m 144 #[.val (.int p1), .val (.int p2), .val (.int p3), .val (.int p4), .val (.int p5), .val vz_2, .val vz_5, .val vz_9, .val vz_14, .val (.int ((1 : Int32) + (p3 &&& (3 : Int32)))), .unset, .unset, .unset, .unset, .unset, .unset] [(.ref b308)])) _
          refine XS.astore X339.here hx rfl (hb hby at_144) rfl rfl (l' := #[.val (.int p1), .val (.int p2), .val (.int p3), .val (.int p4), .val (.int p5), .val vz_2, .val vz_5, .val vz_9, .val vz_14, .val (.int ((1 : Int32) + (p3 &&& (3 : Int32)))), .val (.ref b308), .unset, .unset, .unset, .unset, .unset]) rfl ?_
          exact kt
        rw [own_n4 p3 hc48 hc68 hc93] at pre346
        have pre347 : ∀ t, Steps p.tables e below (T339.setTop (mkF m 155 #[.val (.int p1), .val (.int p2), .val (.int p3), .val (.int p4), .val (.int p5), .val vz_2, .val vz_5, .val vz_9, .val vz_14, .val (.int (4 : Int32)), .val (.ref b308), .val (.int ((p4 &&& (2147483647 : Int32)) % (4 : Int32))), .unset, .unset, .unset, .unset] [])) t → Steps p.tables e below (s₁.setTop (entryFrame m #[(.int p1), (.int p2), (.int p3), (.int p4), (.int p5)] maxLocals)) t := by
          intro t kt
          refine pre346 t ?_
          show Steps p.tables e below (T339.setTop (mkF m 146 #[.val (.int p1), .val (.int p2), .val (.int p3), .val (.int p4), .val (.int p5), .val vz_2, .val vz_5, .val vz_9, .val vz_14, .val (.int (4 : Int32)), .val (.ref b308), .unset, .unset, .unset, .unset, .unset] [])) _
          refine XS.iloadN X339.here hx rfl (hb hby at_146) rfl ?_
          show Steps p.tables e below (T339.setTop (mkF m 147 #[.val (.int p1), .val (.int p2), .val (.int p3), .val (.int p4), .val (.int p5), .val vz_2, .val vz_5, .val vz_9, .val vz_14, .val (.int (4 : Int32)), .val (.ref b308), .unset, .unset, .unset, .unset, .unset] [(.int p4)])) _
          refine X339.ldcInt hx hown (mvT hZ (hw _ (List.mem_of_getElem? (i := 32) rfl))) (g := (mkF m 147 #[.val (.int p1), .val (.int p2), .val (.int p3), .val (.int p4), .val (.int p5), .val vz_2, .val vz_5, .val vz_9, .val vz_14, .val (.int (4 : Int32)), .val (.ref b308), .unset, .unset, .unset, .unset, .unset] [(.int p4)])) rfl (hb hby at_147) _ ?_
          show Steps p.tables e below (T339.setTop (mkF m 149 #[.val (.int p1), .val (.int p2), .val (.int p3), .val (.int p4), .val (.int p5), .val vz_2, .val vz_5, .val vz_9, .val vz_14, .val (.int (4 : Int32)), .val (.ref b308), .unset, .unset, .unset, .unset, .unset] [(.int (2147483647 : Int32)), (.int p4)])) _
          refine XS.iand X339.here hx rfl (hb hby at_149) rfl ?_
          show Steps p.tables e below (T339.setTop (mkF m 150 #[.val (.int p1), .val (.int p2), .val (.int p3), .val (.int p4), .val (.int p5), .val vz_2, .val vz_5, .val vz_9, .val vz_14, .val (.int (4 : Int32)), .val (.ref b308), .unset, .unset, .unset, .unset, .unset] [(.int (p4 &&& (2147483647 : Int32)))])) _
          refine XS.iload X339.here hx rfl (hb hby at_150) rfl ?_
          show Steps p.tables e below (T339.setTop (mkF m 152 #[.val (.int p1), .val (.int p2), .val (.int p3), .val (.int p4), .val (.int p5), .val vz_2, .val vz_5, .val vz_9, .val vz_14, .val (.int (4 : Int32)), .val (.ref b308), .unset, .unset, .unset, .unset, .unset] [(.int (4 : Int32)), (.int (p4 &&& (2147483647 : Int32)))])) _
          refine iremM X339 hx rfl (hb hby at_152) rfl (by decide) ?_
          show Steps p.tables e below (T339.setTop (mkF m 153 #[.val (.int p1), .val (.int p2), .val (.int p3), .val (.int p4), .val (.int p5), .val vz_2, .val vz_5, .val vz_9, .val vz_14, .val (.int (4 : Int32)), .val (.ref b308), .unset, .unset, .unset, .unset, .unset] [(.int ((p4 &&& (2147483647 : Int32)) % (4 : Int32)))])) _
          refine XS.istore X339.here hx rfl (hb hby at_153) rfl (l' := #[.val (.int p1), .val (.int p2), .val (.int p3), .val (.int p4), .val (.int p5), .val vz_2, .val vz_5, .val vz_9, .val vz_14, .val (.int (4 : Int32)), .val (.ref b308), .val (.int ((p4 &&& (2147483647 : Int32)) % (4 : Int32))), .unset, .unset, .unset, .unset]) rfl ?_
          exact kt
        obtain ⟨ic, hic, eic⟩ := own_col4 p4
        rw [eic] at pre347
        have pre348 : ∀ t, Steps p.tables e below (T339.setTop (mkF m 162 #[.val (.int p1), .val (.int p2), .val (.int p3), .val (.int p4), .val (.int p5), .val vz_2, .val vz_5, .val vz_9, .val vz_14, .val (.int (4 : Int32)), .val (.ref b308), .val (.int (Int32.ofNat ic)), .val (.int (p5 &&& (7 : Int32))), .unset, .unset, .unset] [])) t → Steps p.tables e below (s₁.setTop (entryFrame m #[(.int p1), (.int p2), (.int p3), (.int p4), (.int p5)] maxLocals)) t := by
          intro t kt
          refine pre347 t ?_
          show Steps p.tables e below (T339.setTop (mkF m 155 #[.val (.int p1), .val (.int p2), .val (.int p3), .val (.int p4), .val (.int p5), .val vz_2, .val vz_5, .val vz_9, .val vz_14, .val (.int (4 : Int32)), .val (.ref b308), .val (.int (Int32.ofNat ic)), .unset, .unset, .unset, .unset] [])) _
          refine XS.iload X339.here hx rfl (hb hby at_155) rfl ?_
          show Steps p.tables e below (T339.setTop (mkF m 157 #[.val (.int p1), .val (.int p2), .val (.int p3), .val (.int p4), .val (.int p5), .val vz_2, .val vz_5, .val vz_9, .val vz_14, .val (.int (4 : Int32)), .val (.ref b308), .val (.int (Int32.ofNat ic)), .unset, .unset, .unset, .unset] [(.int p5)])) _
          refine XS.bipush X339.here hx rfl (hb hby at_157) ?_
          show Steps p.tables e below (T339.setTop (mkF m 159 #[.val (.int p1), .val (.int p2), .val (.int p3), .val (.int p4), .val (.int p5), .val vz_2, .val vz_5, .val vz_9, .val vz_14, .val (.int (4 : Int32)), .val (.ref b308), .val (.int (Int32.ofNat ic)), .unset, .unset, .unset, .unset] [(.int (7 : Int32)), (.int p5)])) _
          refine XS.iand X339.here hx rfl (hb hby at_159) rfl ?_
          show Steps p.tables e below (T339.setTop (mkF m 160 #[.val (.int p1), .val (.int p2), .val (.int p3), .val (.int p4), .val (.int p5), .val vz_2, .val vz_5, .val vz_9, .val vz_14, .val (.int (4 : Int32)), .val (.ref b308), .val (.int (Int32.ofNat ic)), .unset, .unset, .unset, .unset] [(.int (p5 &&& (7 : Int32)))])) _
          refine XS.istore X339.here hx rfl (hb hby at_160) rfl (l' := #[.val (.int p1), .val (.int p2), .val (.int p3), .val (.int p4), .val (.int p5), .val vz_2, .val vz_5, .val vz_9, .val vz_14, .val (.int (4 : Int32)), .val (.ref b308), .val (.int (Int32.ofNat ic)), .val (.int (p5 &&& (7 : Int32))), .unset, .unset, .unset]) rfl ?_
          exact kt
        obtain ⟨T349, h349, X349, e349, E349, A349, D349, -, st349⟩ := newO X339 hx hZ hown (hw _ (List.mem_of_getElem? (i := 33) rfl)) (hw _ (List.mem_of_getElem? (i := 34) rfl)) (hw _ (List.mem_of_getElem? (i := 35) rfl)) e339 (g := (mkF m 162 #[.val (.int p1), .val (.int p2), .val (.int p3), .val (.int p4), .val (.int p5), .val vz_2, .val vz_5, .val vz_9, .val vz_14, .val (.int (4 : Int32)), .val (.ref b308), .val (.int (Int32.ofNat ic)), .val (.int (p5 &&& (7 : Int32))), .unset, .unset, .unset] [])) rfl (hb hby at_162) (by decide) (by decide)
        obtain ⟨b349, g349⟩ : ∃ z, z = h339.size := ⟨_, rfl⟩
        have ne_b308_b349 : b308 ≠ b349 := Nat.ne_of_lt (Nat.lt_of_lt_of_le V_b308_339'.lt (Nat.le_of_eq g349.symm))
        have g_b349 : n0 ≤ b349 := Nat.le_trans Z339 (Nat.le_of_eq g349.symm)
        have sz_b349 : h0.size ≤ b349 := Nat.le_trans K339.1 (Nat.le_of_eq g349.symm)
        rw [← g349] at A349 D349 st349
        have K349 : Keep h0 h349 [] := K339.ext E349
        have Z349 : n0 ≤ h349.size := Nat.le_trans Z339 E349.1
        have mo349_0 := Nat.le_trans mo339_0 E349.1
        have CR349 := CR339.trans (CHr.ext E349 CR339.1)
        have SCS_350 := SCS_340.ext E349
        have SS_vz_2_2_351 := own_Sext SS_vz_2_2_341 E349
        have SS_vz_5_5_352 := own_Sext SS_vz_5_5_342 E349
        have SS_vz_9_9_353 := own_Sext SS_vz_9_9_343 E349
        have SS_vz_14_14_354 := own_Sext SS_vz_14_14_344 E349
        have V_b308_355 := V_b308_339'.ext E349
        have F_file_b349 : Fld Z h349 b349 "com/example/pourcode/pourcode/csv/CsvRecord" "file" "Ljava/lang/String;" .null := D349 (Or.inr (hw _ (List.mem_of_getElem? (i := 44) rfl))) (ty := (.object "java/lang/String")) (by decide)
        have F_line_b349 : Fld Z h349 b349 "com/example/pourcode/pourcode/csv/CsvRecord" "line" "I" (.int (0 : Int32)) := D349 (Or.inr (hw _ (List.mem_of_getElem? (i := 46) rfl))) (ty := .int) (by decide)
        have F_values_b349 : Fld Z h349 b349 "com/example/pourcode/pourcode/csv/CsvRecord" "values" "[Ljava/lang/String;" .null := D349 (Or.inr (hw _ (List.mem_of_getElem? (i := 48) rfl))) (ty := (.array (.object "java/lang/String"))) (by decide)
        have F_size_b349 : Fld Z h349 b349 "com/example/pourcode/pourcode/csv/CsvRecord" "size" "I" (.int (0 : Int32)) := D349 (Or.inr (hw _ (List.mem_of_getElem? (i := 50) rfl))) (ty := .int) (by decide)
        have F_text_b349 : Fld Z h349 b349 "com/example/pourcode/pourcode/csv/CsvRecord" "text" "[B" .null := D349 (Or.inr (hw _ (List.mem_of_getElem? (i := 52) rfl))) (ty := (.array .byte)) (by decide)
        have pre349 : ∀ t, Steps p.tables e below (T349.setTop (mkF m 165 #[.val (.int p1), .val (.int p2), .val (.int p3), .val (.int p4), .val (.int p5), .val vz_2, .val vz_5, .val vz_9, .val vz_14, .val (.int (4 : Int32)), .val (.ref b308), .val (.int (Int32.ofNat ic)), .val (.int (p5 &&& (7 : Int32))), .unset, .unset, .unset] [(.ref b349)])) t → Steps p.tables e below (s₁.setTop (entryFrame m #[(.int p1), (.int p2), (.int p3), (.int p4), (.int p5)] maxLocals)) t := fun t kt => pre348 t (st349 _ kt)
        have pre356 : ∀ t, Steps p.tables e below (T349.setTop (mkF m 166 #[.val (.int p1), .val (.int p2), .val (.int p3), .val (.int p4), .val (.int p5), .val vz_2, .val vz_5, .val vz_9, .val vz_14, .val (.int (4 : Int32)), .val (.ref b308), .val (.int (Int32.ofNat ic)), .val (.int (p5 &&& (7 : Int32))), .unset, .unset, .unset] [(.ref b349), (.ref b349)])) t → Steps p.tables e below (s₁.setTop (entryFrame m #[(.int p1), (.int p2), (.int p3), (.int p4), (.int p5)] maxLocals)) t := by
          intro t kt
          refine pre349 t ?_
          show Steps p.tables e below (T349.setTop (mkF m 165 #[.val (.int p1), .val (.int p2), .val (.int p3), .val (.int p4), .val (.int p5), .val vz_2, .val vz_5, .val vz_9, .val vz_14, .val (.int (4 : Int32)), .val (.ref b308), .val (.int (Int32.ofNat ic)), .val (.int (p5 &&& (7 : Int32))), .unset, .unset, .unset] [(.ref b349)])) _
          refine XS.dup X349.here hx rfl (hb hby at_165) rfl rfl ?_
          exact kt
        obtain ⟨a357, T357, h357, k357, b357, kb357, X357, e357, E357, hS357, hk357, hZ, hown, A357, C357, F357, V357, la357, lb357, CQ357, Li357, sf357, st357⟩ := ldcCH (s := s) (vm0 := s.vm) (text := own_t36) X349 hx hZ hown (hw _ (List.mem_of_getElem? (i := 36) rfl)) wS e349 hS0 mo349_0 hEL own_mem36 CR349.1 (vs := (own_cs36.map fun c => c.toInt8.toInt32).map Value.int) (z := (1 : Int32)) own_ht36 (by decide) (by decide +kernel) (g := (mkF m 166 #[.val (.int p1), .val (.int p2), .val (.int p3), .val (.int p4), .val (.int p5), .val vz_2, .val vz_5, .val vz_9, .val vz_14, .val (.int (4 : Int32)), .val (.ref b308), .val (.int (Int32.ofNat ic)), .val (.int (p5 &&& (7 : Int32))), .unset, .unset, .unset] [(.ref b349), (.ref b349)])) rfl (hb hby at_166) (n := 4) (by decide +kernel) (by decide) (by decide) (by decide)
        have K357 : Keep h0 h357 [] := K349.ext E357
        have Z357 : n0 ≤ h357.size := Nat.le_trans Z349 E357.1
        have mo357_0 := Nat.le_trans mo349_0 E357.1
        have SCS_358 := SCS_350.ext E357
        have SS_vz_2_2_359 := own_Sext SS_vz_2_2_351 E357
        have SS_vz_5_5_360 := own_Sext SS_vz_5_5_352 E357
        have SS_vz_9_9_361 := own_Sext SS_vz_9_9_353 E357
        have SS_vz_14_14_362 := own_Sext SS_vz_14_14_354 E357
        have V_b308_363 := V_b308_355.ext E357
        have A349_364 := A349.ext E357
        have F_file_b349_365 := F_file_b349.ext E357
        have F_line_b349_366 := F_line_b349.ext E357
        have F_values_b349_367 := F_values_b349.ext E357
        have F_size_b349_368 := F_size_b349.ext E357
        have F_text_b349_369 := F_text_b349.ext E357
        have CR357 := CR349.trans CQ357
        have nel357_b308 := sf357 _ (Safe.arv (hZ.alike) V_b308_363 (by decide))
        have nel357_b349 := sf357 _ (Safe.exa (hZ.alike) A349_364 (by decide) (by decide))
        have pre357 : ∀ t, Steps p.tables e below (T357.setTop (mkF m 168 #[.val (.int p1), .val (.int p2), .val (.int p3), .val (.int p4), .val (.int p5), .val vz_2, .val vz_5, .val vz_9, .val vz_14, .val (.int (4 : Int32)), .val (.ref b308), .val (.int (Int32.ofNat ic)), .val (.int (p5 &&& (7 : Int32))), .unset, .unset, .unset] [(.ref a357), (.ref b349), (.ref b349)])) t → Steps p.tables e below (s₁.setTop (entryFrame m #[(.int p1), (.int p2), (.int p3), (.int p4), (.int p5)] maxLocals)) t := fun t kt => pre356 t (st357 _ kt)
        have pre370 : ∀ t, Steps p.tables e below (T357.setTop (mkF m 174 #[.val (.int p1), .val (.int p2), .val (.int p3), .val (.int p4), .val (.int p5), .val vz_2, .val vz_5, .val vz_9, .val vz_14, .val (.int (4 : Int32)), .val (.ref b308), .val (.int (Int32.ofNat ic)), .val (.int (p5 &&& (7 : Int32))), .unset, .unset, .unset] [.null, (.int (p5 &&& (7 : Int32))), (.ref b308), (.int (1 : Int32)), (.ref a357), (.ref b349), (.ref b349)])) t → Steps p.tables e below (s₁.setTop (entryFrame m #[(.int p1), (.int p2), (.int p3), (.int p4), (.int p5)] maxLocals)) t := by
          intro t kt
          refine pre357 t ?_
          show Steps p.tables e below (T357.setTop (mkF m 168 #[.val (.int p1), .val (.int p2), .val (.int p3), .val (.int p4), .val (.int p5), .val vz_2, .val vz_5, .val vz_9, .val vz_14, .val (.int (4 : Int32)), .val (.ref b308), .val (.int (Int32.ofNat ic)), .val (.int (p5 &&& (7 : Int32))), .unset, .unset, .unset] [(.ref a357), (.ref b349), (.ref b349)])) _
          refine XS.iconst X357.here hx rfl (hb hby at_168) ?_
          show Steps p.tables e below (T357.setTop (mkF m 169 #[.val (.int p1), .val (.int p2), .val (.int p3), .val (.int p4), .val (.int p5), .val vz_2, .val vz_5, .val vz_9, .val vz_14, .val (.int (4 : Int32)), .val (.ref b308), .val (.int (Int32.ofNat ic)), .val (.int (p5 &&& (7 : Int32))), .unset, .unset, .unset] [(.int (1 : Int32)), (.ref a357), (.ref b349), (.ref b349)])) _
          refine XS.aload X357.here hx rfl (hb hby at_169) rfl rfl ?_
          show Steps p.tables e below (T357.setTop (mkF m 171 #[.val (.int p1), .val (.int p2), .val (.int p3), .val (.int p4), .val (.int p5), .val vz_2, .val vz_5, .val vz_9, .val vz_14, .val (.int (4 : Int32)), .val (.ref b308), .val (.int (Int32.ofNat ic)), .val (.int (p5 &&& (7 : Int32))), .unset, .unset, .unset] [(.ref b308), (.int (1 : Int32)), (.ref a357), (.ref b349), (.ref b349)])) _
          refine XS.iload X357.here hx rfl (hb hby at_171) rfl ?_
          show Steps p.tables e below (T357.setTop (mkF m 173 #[.val (.int p1), .val (.int p2), .val (.int p3), .val (.int p4), .val (.int p5), .val vz_2, .val vz_5, .val vz_9, .val vz_14, .val (.int (4 : Int32)), .val (.ref b308), .val (.int (Int32.ofNat ic)), .val (.int (p5 &&& (7 : Int32))), .unset, .unset, .unset] [(.int (p5 &&& (7 : Int32))), (.ref b308), (.int (1 : Int32)), (.ref a357), (.ref b349), (.ref b349)])) _
          refine XS.aconstNull X357.here hx rfl (hb hby at_173) ?_
          exact kt
        obtain ⟨_, _, ⟨T371, L371, k371, n371⟩, -, X371, ⟨Lc371, hQ371, l371, y371, z371⟩, st371⟩ := X357.specialBack hx (y := (⟨"com/example/pourcode/pourcode/csv/CsvRecord", "<init>", "(Ljava/lang/String;I[Ljava/lang/String;I[B)V"⟩ : MethodName)) rfl hown (mvT hZ (hw _ (List.mem_of_getElem? (i := 39) rfl))) (mvT hZ (hw _ (List.mem_of_getElem? (i := 40) rfl))) (mvT hZ (hw _ (List.mem_of_getElem? (i := 41) rfl))) (by decide) (backOf (W := 1) (rm7 l Z a0 hw [] b349 a357 (1 : Int32) b308 (p5 &&& (7 : Int32)) h357 n0 Z357 A349_364 F_file_b349_365 F_line_b349_366 F_values_b349_367 F_size_b349_368 F_text_b349_369 g_b349) hZ (hw _ (List.mem_of_getElem? (i := 41) rfl)) (hw _ (List.mem_of_getElem? (i := 35) rfl)) (by decide) (by decide)) (g := (mkF m 174 #[.val (.int p1), .val (.int p2), .val (.int p3), .val (.int p4), .val (.int p5), .val vz_2, .val vz_5, .val vz_9, .val vz_14, .val (.int (4 : Int32)), .val (.ref b308), .val (.int (Int32.ofNat ic)), .val (.int (p5 &&& (7 : Int32))), .unset, .unset, .unset] [.null, (.int (p5 &&& (7 : Int32))), (.ref b308), (.int (1 : Int32)), (.ref a357), (.ref b349), (.ref b349)])) rfl (by rw [hml]; rfl) (Steps.refl _) (a := b349) (argsL := [(.ref a357), (.int (1 : Int32)), (.ref b308), (.int (p5 &&& (7 : Int32))), .null]) (rest := [(.ref b349)]) (lenOf pd_7 rfl) rfl (by show 2 * 0 + _ ≤ _; exact Nat.le_of_eq rfl) (hb hby at_174) (fun _ _ => ⟨rfl, e357, (by decide : 12 + 0 ≤ _), (by decide : 37 + 0 ≤ _)⟩)
        dsimp only [Pt.U, Pt.locs, Pt.cells, Pt.slots] at X371 l371 y371 z371 st371 hQ371
        subst l371 y371 z371
        obtain ⟨rfl, N371q, KC371, P371_0, P371_1, P371_2⟩ := hQ371
        have N371 := Fr.app N339 N371q
        have Z371 : n0 ≤ T371.heap.size := Nat.le_trans Z357 KC371.1
        have mo371_0 := Nat.le_trans hk357 KC371.1
        have CR371 := CR357.trans (CHr.keep KC371 (sfS (Safe.exa (hZ.alike) A349_364 (by decide) (by decide)) sf0) CR357.1)
        have K371 : Keep h0 T371.heap [] := K357.trans KC371 (allS (Or.inr sz_b349) all0)
        have SCS_372 := own_stak SCS_358 KC371 (nsS A349_364.nostat ns0)
        have SS_vz_2_2_373 := own_Skeep SS_vz_2_2_359 KC371
        have SS_vz_5_5_374 := own_Skeep SS_vz_5_5_360 KC371
        have SS_vz_9_9_375 := own_Skeep SS_vz_9_9_361 KC371
        have SS_vz_14_14_376 := own_Skeep SS_vz_14_14_362 KC371
        have V_b308_377 := V_b308_363.keep KC371 (ninS ne_b308_b349 nin0)
        have A349_378 := A349_364.keep KC371
        have A357_384 := A357.keep KC371
        have C357_385 := C357.keep KC371 (ninS (Ne.symm nel357_b349.1) nin0)
        have F357_386 := F357.keep KC371 (ninS (Ne.symm nel357_b349.1) nin0)
        have V357_387 := V357.keep KC371 (ninS (Ne.symm nel357_b349.2) nin0)
        have E_b349_371 : Exa Z T371.heap b349 "com/example/pourcode/pourcode/csv/CsvRecord" := P371_0
        have F_values_b349_371 : Fld Z T371.heap b349 "com/example/pourcode/pourcode/csv/CsvRecord" "values" "[Ljava/lang/String;" (.ref b308) := P371_1
        have F_size_b349_371 : Fld Z T371.heap b349 "com/example/pourcode/pourcode/csv/CsvRecord" "size" "I" (.int (p5 &&& (7 : Int32))) := P371_2
        have pre371 : ∀ t, Steps p.tables e below (T371.setTop (mkF m 177 #[.val (.int p1), .val (.int p2), .val (.int p3), .val (.int p4), .val (.int p5), .val vz_2, .val vz_5, .val vz_9, .val vz_14, .val (.int (4 : Int32)), .val (.ref b308), .val (.int (Int32.ofNat ic)), .val (.int (p5 &&& (7 : Int32))), .unset, .unset, .unset] [(.ref b349)])) t → Steps p.tables e below (s₁.setTop (entryFrame m #[(.int p1), (.int p2), (.int p3), (.int p4), (.int p5)] maxLocals)) t := fun t kt => pre370 t (st371.trans kt)
        have pre388 : ∀ t, Steps p.tables e below (T371.setTop (mkF m 183 #[.val (.int p1), .val (.int p2), .val (.int p3), .val (.int p4), .val (.int p5), .val vz_2, .val vz_5, .val vz_9, .val vz_14, .val (.int (4 : Int32)), .val (.ref b308), .val (.int (Int32.ofNat ic)), .val (.int (p5 &&& (7 : Int32))), .val (.ref b349), .unset, .unset] [(.int (Int32.ofNat ic)), (.ref b349)])) t → Steps p.tables e below (s₁.setTop (entryFrame m #[(.int p1), (.int p2), (.int p3), (.int p4), (.int p5)] maxLocals)) t := by
          intro t kt
          refine pre371 t ?_
          show Steps p.tables e below (T371.setTop (mkF m 177 #[.val (.int p1), .val (.int p2), .val (.int p3), .val (.int p4), .val (.int p5), .val vz_2, .val vz_5, .val vz_9, .val vz_14, .val (.int (4 : Int32)), .val (.ref b308), .val (.int (Int32.ofNat ic)), .val (.int (p5 &&& (7 : Int32))), .unset, .unset, .unset] [(.ref b349)])) _
          refine XS.astore X371.here hx rfl (hb hby at_177) rfl rfl (l' := #[.val (.int p1), .val (.int p2), .val (.int p3), .val (.int p4), .val (.int p5), .val vz_2, .val vz_5, .val vz_9, .val vz_14, .val (.int (4 : Int32)), .val (.ref b308), .val (.int (Int32.ofNat ic)), .val (.int (p5 &&& (7 : Int32))), .val (.ref b349), .unset, .unset]) rfl ?_
          show Steps p.tables e below (T371.setTop (mkF m 179 #[.val (.int p1), .val (.int p2), .val (.int p3), .val (.int p4), .val (.int p5), .val vz_2, .val vz_5, .val vz_9, .val vz_14, .val (.int (4 : Int32)), .val (.ref b308), .val (.int (Int32.ofNat ic)), .val (.int (p5 &&& (7 : Int32))), .val (.ref b349), .unset, .unset] [])) _
          refine XS.aload X371.here hx rfl (hb hby at_179) rfl rfl ?_
          show Steps p.tables e below (T371.setTop (mkF m 181 #[.val (.int p1), .val (.int p2), .val (.int p3), .val (.int p4), .val (.int p5), .val vz_2, .val vz_5, .val vz_9, .val vz_14, .val (.int (4 : Int32)), .val (.ref b308), .val (.int (Int32.ofNat ic)), .val (.int (p5 &&& (7 : Int32))), .val (.ref b349), .unset, .unset] [(.ref b349)])) _
          refine XS.iload X371.here hx rfl (hb hby at_181) rfl ?_
          exact kt
        by_cases hsz : (Int32.ofNat ic) < (p5 &&& (7 : Int32))
        · skip
          obtain ⟨cq389, kq389, q389a, q389b, q389c⟩ := isOf hZ rfl E_b349_371
          obtain ⟨_, _, ⟨T389, L389, k389, n389⟩, -, X389, ⟨Lc389, hQ389, l389, y389, z389⟩, st389⟩ := X371.virtualBack hx (y := (⟨"com/example/pourcode/pourcode/csv/CsvRecord", "get", "(I)Ljava/lang/String;"⟩ : MethodName)) (z := (⟨"com/example/pourcode/pourcode/csv/CsvRecord", "get", "(I)Ljava/lang/String;"⟩ : MethodName)) hown (mvT hZ (hw _ (List.mem_of_getElem? (i := 53) rfl))) (mvT hZ (hw _ (List.mem_of_getElem? (i := 54) rfl))) (notFace_of_selects (args := #[]) (mvT hZ (hw _ (List.mem_of_getElem? (i := 56) rfl)))) (mvT hZ (hw _ (List.mem_of_getElem? (i := 56) rfl))) (mvT hZ (hw _ (List.mem_of_getElem? (i := 55) rfl))) (by decide) (backOf (W := 0) (rm8a l Z a0 hw [] b349 (Int32.ofNat ic) b308 (p5 &&& (7 : Int32)) k308 (4 : Int32) [vz_2, vz_5, vz_9, vz_14] ([vz_2, vz_5, vz_9, vz_14].getD ic Value.null) T371.heap n0 Z371 F_values_b349_371 F_size_b349_371 V_b308_377 ((own_ix4 hic).1) ((own_ix4 hic).2) (hsz) (by rw [own_clamp4 (by omega)]) (own_getref (fun v hv => by simp only [List.mem_cons, List.not_mem_nil, or_false] at hv; rcases hv with rfl | rfl | rfl | rfl <;> assumption) ic)) hZ (hw _ (List.mem_of_getElem? (i := 57) rfl)) (hw _ (List.mem_of_getElem? (i := 35) rfl)) (by decide) (by decide)) q389a q389c (g := (mkF m 183 #[.val (.int p1), .val (.int p2), .val (.int p3), .val (.int p4), .val (.int p5), .val vz_2, .val vz_5, .val vz_9, .val vz_14, .val (.int (4 : Int32)), .val (.ref b308), .val (.int (Int32.ofNat ic)), .val (.int (p5 &&& (7 : Int32))), .val (.ref b349), .unset, .unset] [(.int (Int32.ofNat ic)), (.ref b349)])) rfl (by rw [hml]; rfl) (Steps.refl _) (argsL := [(.int (Int32.ofNat ic))]) (rest := []) (lenOf pd_8 rfl) rfl (by show 2 * 0 + _ ≤ _; exact Nat.le_of_eq rfl) (hb hby at_183) (fun _ _ => ⟨rfl, rfl, (by decide : 12 + 0 ≤ _), (by decide : 37 + 0 ≤ _)⟩)
          dsimp only [Pt.U, Pt.locs, Pt.cells, Pt.slots] at X389 l389 y389 z389 st389 hQ389
          subst l389 y389 z389
          obtain ⟨rfl, N389q, e389⟩ := hQ389
          have N389 := Fr.app N371 N389q
          have pre389 : ∀ t, Steps p.tables e below (T389.setTop (mkF m 186 #[.val (.int p1), .val (.int p2), .val (.int p3), .val (.int p4), .val (.int p5), .val vz_2, .val vz_5, .val vz_9, .val vz_14, .val (.int (4 : Int32)), .val (.ref b308), .val (.int (Int32.ofNat ic)), .val (.int (p5 &&& (7 : Int32))), .val (.ref b349), .unset, .unset] [([vz_2, vz_5, vz_9, vz_14].getD ic Value.null)])) t → Steps p.tables e below (s₁.setTop (entryFrame m #[(.int p1), (.int p2), (.int p3), (.int p4), (.int p5)] maxLocals)) t := fun t kt => pre388 t (st389.trans kt)
          have hgz : ([vz_2, vz_5, vz_9, vz_14].getD ic Value.null).isRef = true := own_getref (fun v hv => by simp only [List.mem_cons, List.not_mem_nil, or_false] at hv; rcases hv with rfl | rfl | rfl | rfl <;> assumption) ic
          have pre390 : ∀ t, Steps p.tables e below (T389.setTop (mkF m 190 #[.val (.int p1), .val (.int p2), .val (.int p3), .val (.int p4), .val (.int p5), .val vz_2, .val vz_5, .val vz_9, .val vz_14, .val (.int (4 : Int32)), .val (.ref b308), .val (.int (Int32.ofNat ic)), .val (.int (p5 &&& (7 : Int32))), .val (.ref b349), .val ([vz_2, vz_5, vz_9, vz_14].getD ic Value.null), .unset] [(.int (Int32.ofNat ic))])) t → Steps p.tables e below (s₁.setTop (entryFrame m #[(.int p1), (.int p2), (.int p3), (.int p4), (.int p5)] maxLocals)) t := by
            intro t kt
            refine pre389 t ?_
            show Steps p.tables e below (T389.setTop (mkF m 186 #[.val (.int p1), .val (.int p2), .val (.int p3), .val (.int p4), .val (.int p5), .val vz_2, .val vz_5, .val vz_9, .val vz_14, .val (.int (4 : Int32)), .val (.ref b308), .val (.int (Int32.ofNat ic)), .val (.int (p5 &&& (7 : Int32))), .val (.ref b349), .unset, .unset] [([vz_2, vz_5, vz_9, vz_14].getD ic Value.null)])) _
            refine XS.astore X389.here hx rfl (hb hby at_186) rfl hgz (l' := #[.val (.int p1), .val (.int p2), .val (.int p3), .val (.int p4), .val (.int p5), .val vz_2, .val vz_5, .val vz_9, .val vz_14, .val (.int (4 : Int32)), .val (.ref b308), .val (.int (Int32.ofNat ic)), .val (.int (p5 &&& (7 : Int32))), .val (.ref b349), .val ([vz_2, vz_5, vz_9, vz_14].getD ic Value.null), .unset]) (by rcases ref_cases hgz with q | ⟨_, q⟩ <;> rw [q] <;> rfl) ?_
            show Steps p.tables e below (T389.setTop (mkF m 188 #[.val (.int p1), .val (.int p2), .val (.int p3), .val (.int p4), .val (.int p5), .val vz_2, .val vz_5, .val vz_9, .val vz_14, .val (.int (4 : Int32)), .val (.ref b308), .val (.int (Int32.ofNat ic)), .val (.int (p5 &&& (7 : Int32))), .val (.ref b349), .val ([vz_2, vz_5, vz_9, vz_14].getD ic Value.null), .unset] [])) _
            refine XS.iload X389.here hx rfl (hb hby at_188) rfl ?_
            exact kt
          obtain ⟨v391_0, hv391_0, pre391⟩ : ∃ (v391_0 : Value), v391_0 = (if (Int32.ofNat ic) = (0 : Int32) then vz_2 else (if (Int32.ofNat ic) = (1 : Int32) then vz_5 else (if (Int32.ofNat ic) = (2 : Int32) then vz_9 else vz_14))) ∧ ∀ t, Steps p.tables e below (T389.setTop (mkF m 230 #[.val (.int p1), .val (.int p2), .val (.int p3), .val (.int p4), .val (.int p5), .val vz_2, .val vz_5, .val vz_9, .val vz_14, .val (.int (4 : Int32)), .val (.ref b308), .val (.int (Int32.ofNat ic)), .val (.int (p5 &&& (7 : Int32))), .val (.ref b349), .val ([vz_2, vz_5, vz_9, vz_14].getD ic Value.null), .val v391_0] [])) t → Steps p.tables e below (s₁.setTop (entryFrame m #[(.int p1), (.int p2), (.int p3), (.int p4), (.int p5)] maxLocals)) t := by
            refine ⟨_, rfl, ?_⟩
            intro t kt
            refine pre390 t ?_
            show Steps p.tables e below (T389.setTop (mkF m 190 #[.val (.int p1), .val (.int p2), .val (.int p3), .val (.int p4), .val (.int p5), .val vz_2, .val vz_5, .val vz_9, .val vz_14, .val (.int (4 : Int32)), .val (.ref b308), .val (.int (Int32.ofNat ic)), .val (.int (p5 &&& (7 : Int32))), .val (.ref b349), .val ([vz_2, vz_5, vz_9, vz_14].getD ic Value.null), .unset] [(.int (Int32.ofNat ic))])) _
            by_cases hc190 : (Int32.ofNat ic) = (0 : Int32)
            · (try simp only [if_pos hc190] at kt)
              refine XS.ifNo X389.here hx rfl (hb hby at_190) rfl ((if0 _ _).trans (teq hc190).2) ?_
              show Steps p.tables e below (T389.setTop (mkF m 193 #[.val (.int p1), .val (.int p2), .val (.int p3), .val (.int p4), .val (.int p5), .val vz_2, .val vz_5, .val vz_9, .val vz_14, .val (.int (4 : Int32)), .val (.ref b308), .val (.int (Int32.ofNat ic)), .val (.int (p5 &&& (7 : Int32))), .val (.ref b349), .val ([vz_2, vz_5, vz_9, vz_14].getD ic Value.null), .unset] [])) _
              refine XS.aload X389.here hx rfl (hb hby at_193) rfl R2_0 ?_
              show Steps p.tables e below (T389.setTop (mkF m 195 #[.val (.int p1), .val (.int p2), .val (.int p3), .val (.int p4), .val (.int p5), .val vz_2, .val vz_5, .val vz_9, .val vz_14, .val (.int (4 : Int32)), .val (.ref b308), .val (.int (Int32.ofNat ic)), .val (.int (p5 &&& (7 : Int32))), .val (.ref b349), .val ([vz_2, vz_5, vz_9, vz_14].getD ic Value.null), .unset] [vz_2])) _
              refine XS.astore X389.here hx rfl (hb hby at_195) rfl R2_0 (l' := #[.val (.int p1), .val (.int p2), .val (.int p3), .val (.int p4), .val (.int p5), .val vz_2, .val vz_5, .val vz_9, .val vz_14, .val (.int (4 : Int32)), .val (.ref b308), .val (.int (Int32.ofNat ic)), .val (.int (p5 &&& (7 : Int32))), .val (.ref b349), .val ([vz_2, vz_5, vz_9, vz_14].getD ic Value.null), .val vz_2]) (by rcases ref_cases R2_0 with q | ⟨_, q⟩ <;> rw [q] <;> rfl) ?_
              show Steps p.tables e below (T389.setTop (mkF m 197 #[.val (.int p1), .val (.int p2), .val (.int p3), .val (.int p4), .val (.int p5), .val vz_2, .val vz_5, .val vz_9, .val vz_14, .val (.int (4 : Int32)), .val (.ref b308), .val (.int (Int32.ofNat ic)), .val (.int (p5 &&& (7 : Int32))), .val (.ref b349), .val ([vz_2, vz_5, vz_9, vz_14].getD ic Value.null), .val vz_2] [])) _
              refine XS.goto X389.here hx rfl (pc0 := 197) (pc' := 230) rfl (hb hby at_197) (by decide) (by decide) ?_
              exact kt
            · (try simp only [if_neg hc190] at kt)
              refine XS.ifYes X389.here hx rfl (pc0 := 190) (pc' := 200) rfl (hb hby at_190) rfl ((if0 _ _).trans (feq hc190).2) (by decide) (by decide) ?_
              show Steps p.tables e below (T389.setTop (mkF m 200 #[.val (.int p1), .val (.int p2), .val (.int p3), .val (.int p4), .val (.int p5), .val vz_2, .val vz_5, .val vz_9, .val vz_14, .val (.int (4 : Int32)), .val (.ref b308), .val (.int (Int32.ofNat ic)), .val (.int (p5 &&& (7 : Int32))), .val (.ref b349), .val ([vz_2, vz_5, vz_9, vz_14].getD ic Value.null), .unset] [])) _
              refine XS.iload X389.here hx rfl (hb hby at_200) rfl ?_
              show Steps p.tables e below (T389.setTop (mkF m 202 #[.val (.int p1), .val (.int p2), .val (.int p3), .val (.int p4), .val (.int p5), .val vz_2, .val vz_5, .val vz_9, .val vz_14, .val (.int (4 : Int32)), .val (.ref b308), .val (.int (Int32.ofNat ic)), .val (.int (p5 &&& (7 : Int32))), .val (.ref b349), .val ([vz_2, vz_5, vz_9, vz_14].getD ic Value.null), .unset] [(.int (Int32.ofNat ic))])) _
              refine XS.iconst X389.here hx rfl (hb hby at_202) ?_
              show Steps p.tables e below (T389.setTop (mkF m 203 #[.val (.int p1), .val (.int p2), .val (.int p3), .val (.int p4), .val (.int p5), .val vz_2, .val vz_5, .val vz_9, .val vz_14, .val (.int (4 : Int32)), .val (.ref b308), .val (.int (Int32.ofNat ic)), .val (.int (p5 &&& (7 : Int32))), .val (.ref b349), .val ([vz_2, vz_5, vz_9, vz_14].getD ic Value.null), .unset] [(.int (1 : Int32)), (.int (Int32.ofNat ic))])) _
              by_cases hc203 : (Int32.ofNat ic) = (1 : Int32)
              · (try simp only [if_pos hc203] at kt)
                refine XS.icmpNo X389.here hx rfl (hb hby at_203) rfl (teq hc203).2 ?_
                show Steps p.tables e below (T389.setTop (mkF m 206 #[.val (.int p1), .val (.int p2), .val (.int p3), .val (.int p4), .val (.int p5), .val vz_2, .val vz_5, .val vz_9, .val vz_14, .val (.int (4 : Int32)), .val (.ref b308), .val (.int (Int32.ofNat ic)), .val (.int (p5 &&& (7 : Int32))), .val (.ref b349), .val ([vz_2, vz_5, vz_9, vz_14].getD ic Value.null), .unset] [])) _
                refine XS.aload X389.here hx rfl (hb hby at_206) rfl R5_0 ?_
                show Steps p.tables e below (T389.setTop (mkF m 208 #[.val (.int p1), .val (.int p2), .val (.int p3), .val (.int p4), .val (.int p5), .val vz_2, .val vz_5, .val vz_9, .val vz_14, .val (.int (4 : Int32)), .val (.ref b308), .val (.int (Int32.ofNat ic)), .val (.int (p5 &&& (7 : Int32))), .val (.ref b349), .val ([vz_2, vz_5, vz_9, vz_14].getD ic Value.null), .unset] [vz_5])) _
                refine XS.astore X389.here hx rfl (hb hby at_208) rfl R5_0 (l' := #[.val (.int p1), .val (.int p2), .val (.int p3), .val (.int p4), .val (.int p5), .val vz_2, .val vz_5, .val vz_9, .val vz_14, .val (.int (4 : Int32)), .val (.ref b308), .val (.int (Int32.ofNat ic)), .val (.int (p5 &&& (7 : Int32))), .val (.ref b349), .val ([vz_2, vz_5, vz_9, vz_14].getD ic Value.null), .val vz_5]) (by rcases ref_cases R5_0 with q | ⟨_, q⟩ <;> rw [q] <;> rfl) ?_
                show Steps p.tables e below (T389.setTop (mkF m 210 #[.val (.int p1), .val (.int p2), .val (.int p3), .val (.int p4), .val (.int p5), .val vz_2, .val vz_5, .val vz_9, .val vz_14, .val (.int (4 : Int32)), .val (.ref b308), .val (.int (Int32.ofNat ic)), .val (.int (p5 &&& (7 : Int32))), .val (.ref b349), .val ([vz_2, vz_5, vz_9, vz_14].getD ic Value.null), .val vz_5] [])) _
                refine XS.goto X389.here hx rfl (pc0 := 210) (pc' := 230) rfl (hb hby at_210) (by decide) (by decide) ?_
                exact kt
              · (try simp only [if_neg hc203] at kt)
                refine XS.icmpYes X389.here hx rfl (pc0 := 203) (pc' := 213) rfl (hb hby at_203) rfl (feq hc203).2 (by decide) (by decide) ?_
                show Steps p.tables e below (T389.setTop (mkF m 213 #[.val (.int p1), .val (.int p2), .val (.int p3), .val (.int p4), .val (.int p5), .val vz_2, .val vz_5, .val vz_9, .val vz_14, .val (.int (4 : Int32)), .val (.ref b308), .val (.int (Int32.ofNat ic)), .val (.int (p5 &&& (7 : Int32))), .val (.ref b349), .val ([vz_2, vz_5, vz_9, vz_14].getD ic Value.null), .unset] [])) _
                refine XS.iload X389.here hx rfl (hb hby at_213) rfl ?_
                show Steps p.tables e below (T389.setTop (mkF m 215 #[.val (.int p1), .val (.int p2), .val (.int p3), .val (.int p4), .val (.int p5), .val vz_2, .val vz_5, .val vz_9, .val vz_14, .val (.int (4 : Int32)), .val (.ref b308), .val (.int (Int32.ofNat ic)), .val (.int (p5 &&& (7 : Int32))), .val (.ref b349), .val ([vz_2, vz_5, vz_9, vz_14].getD ic Value.null), .unset] [(.int (Int32.ofNat ic))])) _
                refine XS.iconst X389.here hx rfl (hb hby at_215) ?_
                show Steps p.tables e below (T389.setTop (mkF m 216 #[.val (.int p1), .val (.int p2), .val (.int p3), .val (.int p4), .val (.int p5), .val vz_2, .val vz_5, .val vz_9, .val vz_14, .val (.int (4 : Int32)), .val (.ref b308), .val (.int (Int32.ofNat ic)), .val (.int (p5 &&& (7 : Int32))), .val (.ref b349), .val ([vz_2, vz_5, vz_9, vz_14].getD ic Value.null), .unset] [(.int (2 : Int32)), (.int (Int32.ofNat ic))])) _
                by_cases hc216 : (Int32.ofNat ic) = (2 : Int32)
                · (try simp only [if_pos hc216] at kt)
                  refine XS.icmpNo X389.here hx rfl (hb hby at_216) rfl (teq hc216).2 ?_
                  show Steps p.tables e below (T389.setTop (mkF m 219 #[.val (.int p1), .val (.int p2), .val (.int p3), .val (.int p4), .val (.int p5), .val vz_2, .val vz_5, .val vz_9, .val vz_14, .val (.int (4 : Int32)), .val (.ref b308), .val (.int (Int32.ofNat ic)), .val (.int (p5 &&& (7 : Int32))), .val (.ref b349), .val ([vz_2, vz_5, vz_9, vz_14].getD ic Value.null), .unset] [])) _
                  refine XS.aload X389.here hx rfl (hb hby at_219) rfl R9_0 ?_
                  show Steps p.tables e below (T389.setTop (mkF m 221 #[.val (.int p1), .val (.int p2), .val (.int p3), .val (.int p4), .val (.int p5), .val vz_2, .val vz_5, .val vz_9, .val vz_14, .val (.int (4 : Int32)), .val (.ref b308), .val (.int (Int32.ofNat ic)), .val (.int (p5 &&& (7 : Int32))), .val (.ref b349), .val ([vz_2, vz_5, vz_9, vz_14].getD ic Value.null), .unset] [vz_9])) _
                  refine XS.astore X389.here hx rfl (hb hby at_221) rfl R9_0 (l' := #[.val (.int p1), .val (.int p2), .val (.int p3), .val (.int p4), .val (.int p5), .val vz_2, .val vz_5, .val vz_9, .val vz_14, .val (.int (4 : Int32)), .val (.ref b308), .val (.int (Int32.ofNat ic)), .val (.int (p5 &&& (7 : Int32))), .val (.ref b349), .val ([vz_2, vz_5, vz_9, vz_14].getD ic Value.null), .val vz_9]) (by rcases ref_cases R9_0 with q | ⟨_, q⟩ <;> rw [q] <;> rfl) ?_
                  show Steps p.tables e below (T389.setTop (mkF m 223 #[.val (.int p1), .val (.int p2), .val (.int p3), .val (.int p4), .val (.int p5), .val vz_2, .val vz_5, .val vz_9, .val vz_14, .val (.int (4 : Int32)), .val (.ref b308), .val (.int (Int32.ofNat ic)), .val (.int (p5 &&& (7 : Int32))), .val (.ref b349), .val ([vz_2, vz_5, vz_9, vz_14].getD ic Value.null), .val vz_9] [])) _
                  refine XS.goto X389.here hx rfl (pc0 := 223) (pc' := 230) rfl (hb hby at_223) (by decide) (by decide) ?_
                  exact kt
                · (try simp only [if_neg hc216] at kt)
                  refine XS.icmpYes X389.here hx rfl (pc0 := 216) (pc' := 226) rfl (hb hby at_216) rfl (feq hc216).2 (by decide) (by decide) ?_
                  show Steps p.tables e below (T389.setTop (mkF m 226 #[.val (.int p1), .val (.int p2), .val (.int p3), .val (.int p4), .val (.int p5), .val vz_2, .val vz_5, .val vz_9, .val vz_14, .val (.int (4 : Int32)), .val (.ref b308), .val (.int (Int32.ofNat ic)), .val (.int (p5 &&& (7 : Int32))), .val (.ref b349), .val ([vz_2, vz_5, vz_9, vz_14].getD ic Value.null), .unset] [])) _
                  refine XS.aload X389.here hx rfl (hb hby at_226) rfl R14_0 ?_
                  show Steps p.tables e below (T389.setTop (mkF m 228 #[.val (.int p1), .val (.int p2), .val (.int p3), .val (.int p4), .val (.int p5), .val vz_2, .val vz_5, .val vz_9, .val vz_14, .val (.int (4 : Int32)), .val (.ref b308), .val (.int (Int32.ofNat ic)), .val (.int (p5 &&& (7 : Int32))), .val (.ref b349), .val ([vz_2, vz_5, vz_9, vz_14].getD ic Value.null), .unset] [vz_14])) _
                  refine XS.astore X389.here hx rfl (hb hby at_228) rfl R14_0 (l' := #[.val (.int p1), .val (.int p2), .val (.int p3), .val (.int p4), .val (.int p5), .val vz_2, .val vz_5, .val vz_9, .val vz_14, .val (.int (4 : Int32)), .val (.ref b308), .val (.int (Int32.ofNat ic)), .val (.int (p5 &&& (7 : Int32))), .val (.ref b349), .val ([vz_2, vz_5, vz_9, vz_14].getD ic Value.null), .val vz_14]) (by rcases ref_cases R14_0 with q | ⟨_, q⟩ <;> rw [q] <;> rfl) ?_
                  exact kt
          have hr_v391_0 : v391_0.isRef = true := by rw [hv391_0]; (repeat' split) <;> assumption
          have pre392 : ∀ t, Steps p.tables e below (T389.setTop (mkF m 241 #[.val (.int p1), .val (.int p2), .val (.int p3), .val (.int p4), .val (.int p5), .val vz_2, .val vz_5, .val vz_9, .val vz_14, .val (.int (4 : Int32)), .val (.ref b308), .val (.int (Int32.ofNat ic)), .val (.int (p5 &&& (7 : Int32))), .val (.ref b349), .val ([vz_2, vz_5, vz_9, vz_14].getD ic Value.null), .val v391_0] [v391_0, ([vz_2, vz_5, vz_9, vz_14].getD ic Value.null)])) t → Steps p.tables e below (s₁.setTop (entryFrame m #[(.int p1), (.int p2), (.int p3), (.int p4), (.int p5)] maxLocals)) t := by
            intro t kt
            refine pre391 t ?_
            show Steps p.tables e below (T389.setTop (mkF m 230 #[.val (.int p1), .val (.int p2), .val (.int p3), .val (.int p4), .val (.int p5), .val vz_2, .val vz_5, .val vz_9, .val vz_14, .val (.int (4 : Int32)), .val (.ref b308), .val (.int (Int32.ofNat ic)), .val (.int (p5 &&& (7 : Int32))), .val (.ref b349), .val ([vz_2, vz_5, vz_9, vz_14].getD ic Value.null), .val v391_0] [])) _
            refine XS.iload X389.here hx rfl (hb hby at_230) rfl ?_
            show Steps p.tables e below (T389.setTop (mkF m 232 #[.val (.int p1), .val (.int p2), .val (.int p3), .val (.int p4), .val (.int p5), .val vz_2, .val vz_5, .val vz_9, .val vz_14, .val (.int (4 : Int32)), .val (.ref b308), .val (.int (Int32.ofNat ic)), .val (.int (p5 &&& (7 : Int32))), .val (.ref b349), .val ([vz_2, vz_5, vz_9, vz_14].getD ic Value.null), .val v391_0] [(.int (Int32.ofNat ic))])) _
            refine XS.iload X389.here hx rfl (hb hby at_232) rfl ?_
            show Steps p.tables e below (T389.setTop (mkF m 234 #[.val (.int p1), .val (.int p2), .val (.int p3), .val (.int p4), .val (.int p5), .val vz_2, .val vz_5, .val vz_9, .val vz_14, .val (.int (4 : Int32)), .val (.ref b308), .val (.int (Int32.ofNat ic)), .val (.int (p5 &&& (7 : Int32))), .val (.ref b349), .val ([vz_2, vz_5, vz_9, vz_14].getD ic Value.null), .val v391_0] [(.int (p5 &&& (7 : Int32))), (.int (Int32.ofNat ic))])) _
            refine XS.icmpNo X389.here hx rfl (hb hby at_234) rfl (tlt hsz).2.1 ?_
            show Steps p.tables e below (T389.setTop (mkF m 237 #[.val (.int p1), .val (.int p2), .val (.int p3), .val (.int p4), .val (.int p5), .val vz_2, .val vz_5, .val vz_9, .val vz_14, .val (.int (4 : Int32)), .val (.ref b308), .val (.int (Int32.ofNat ic)), .val (.int (p5 &&& (7 : Int32))), .val (.ref b349), .val ([vz_2, vz_5, vz_9, vz_14].getD ic Value.null), .val v391_0] [])) _
            refine XS.aload X389.here hx rfl (hb hby at_237) rfl hgz ?_
            show Steps p.tables e below (T389.setTop (mkF m 239 #[.val (.int p1), .val (.int p2), .val (.int p3), .val (.int p4), .val (.int p5), .val vz_2, .val vz_5, .val vz_9, .val vz_14, .val (.int (4 : Int32)), .val (.ref b308), .val (.int (Int32.ofNat ic)), .val (.int (p5 &&& (7 : Int32))), .val (.ref b349), .val ([vz_2, vz_5, vz_9, vz_14].getD ic Value.null), .val v391_0] [([vz_2, vz_5, vz_9, vz_14].getD ic Value.null)])) _
            refine XS.aload X389.here hx rfl (hb hby at_239) rfl hr_v391_0 ?_
            exact kt
          have pre393 : ∀ t, Steps p.tables e below (T389.setTop (mkF m 244 #[.val (.int p1), .val (.int p2), .val (.int p3), .val (.int p4), .val (.int p5), .val vz_2, .val vz_5, .val vz_9, .val vz_14, .val (.int (4 : Int32)), .val (.ref b308), .val (.int (Int32.ofNat ic)), .val (.int (p5 &&& (7 : Int32))), .val (.ref b349), .val ([vz_2, vz_5, vz_9, vz_14].getD ic Value.null), .val v391_0] [])) t → Steps p.tables e below (s₁.setTop (entryFrame m #[(.int p1), (.int p2), (.int p3), (.int p4), (.int p5)] maxLocals)) t := fun t kt => pre392 t (by
            show Steps p.tables e below (T389.setTop (mkF m 241 #[.val (.int p1), .val (.int p2), .val (.int p3), .val (.int p4), .val (.int p5), .val vz_2, .val vz_5, .val vz_9, .val vz_14, .val (.int (4 : Int32)), .val (.ref b308), .val (.int (Int32.ofNat ic)), .val (.int (p5 &&& (7 : Int32))), .val (.ref b349), .val ([vz_2, vz_5, vz_9, vz_14].getD ic Value.null), .val v391_0] [v391_0, ([vz_2, vz_5, vz_9, vz_14].getD ic Value.null)])) _
            refine Jvm.RoadKit.acmp (g := (mkF m 241 #[.val (.int p1), .val (.int p2), .val (.int p3), .val (.int p4), .val (.int p5), .val vz_2, .val vz_5, .val vz_9, .val vz_14, .val (.int (4 : Int32)), .val (.ref b308), .val (.int (Int32.ofNat ic)), .val (.int (p5 &&& (7 : Int32))), .val (.ref b349), .val ([vz_2, vz_5, vz_9, vz_14].getD ic Value.null), .val v391_0] [v391_0, ([vz_2, vz_5, vz_9, vz_14].getD ic Value.null)])) X389 hx rfl hgz hr_v391_0 (pc0 := 241) (pc' := 244) (same := true) rfl (hb hby at_241) rfl (decide_eq_true ((own_kept4 hic).trans hv391_0.symm)) (by decide) (by decide) ?_
            exact kt)
          have pre394 : ∀ t, Steps p.tables e below (T389.setTop (mkF m 249 #[.val (.int p1), .val (.int p2), .val (.int p3), .val (.int p4), .val (.int p5), .val vz_2, .val vz_5, .val vz_9, .val vz_14, .val (.int (4 : Int32)), .val (.ref b308), .val (.int (Int32.ofNat ic)), .val (.int (p5 &&& (7 : Int32))), .val (.ref b349), .val ([vz_2, vz_5, vz_9, vz_14].getD ic Value.null), .val v391_0] [(.int (1 : Int32))])) t → Steps p.tables e below (s₁.setTop (entryFrame m #[(.int p1), (.int p2), (.int p3), (.int p4), (.int p5)] maxLocals)) t := by
            intro t kt
            refine pre393 t ?_
            show Steps p.tables e below (T389.setTop (mkF m 244 #[.val (.int p1), .val (.int p2), .val (.int p3), .val (.int p4), .val (.int p5), .val vz_2, .val vz_5, .val vz_9, .val vz_14, .val (.int (4 : Int32)), .val (.ref b308), .val (.int (Int32.ofNat ic)), .val (.int (p5 &&& (7 : Int32))), .val (.ref b349), .val ([vz_2, vz_5, vz_9, vz_14].getD ic Value.null), .val v391_0] [])) _
            refine XS.iconst X389.here hx rfl (hb hby at_244) ?_
            show Steps p.tables e below (T389.setTop (mkF m 245 #[.val (.int p1), .val (.int p2), .val (.int p3), .val (.int p4), .val (.int p5), .val vz_2, .val vz_5, .val vz_9, .val vz_14, .val (.int (4 : Int32)), .val (.ref b308), .val (.int (Int32.ofNat ic)), .val (.int (p5 &&& (7 : Int32))), .val (.ref b349), .val ([vz_2, vz_5, vz_9, vz_14].getD ic Value.null), .val v391_0] [(.int (1 : Int32))])) _
            refine XS.goto X389.here hx rfl (pc0 := 245) (pc' := 249) rfl (hb hby at_245) (by decide) (by decide) ?_
            exact kt
          obtain ⟨fs, hr, hrun, hended, hEnd⟩ := X389.leaveW (s := s) (vm₁ := T357.vm) hS357 (by rw [e389]; exact mo371_0) (v := some (.int (1 : Int32))) (fun h => by rw [Bd.returns] at h; cases h)
          refine ⟨_, _, pre394 _ ?_, hrun, hended, _, _, rfl, ?_, hEnd.1, hEnd.2.1, hEnd.2.2.1, hEnd.2.2.2.mono (by decide) (by decide)⟩
          · show Steps p.tables e below (T389.setTop (mkF m 249 #[.val (.int p1), .val (.int p2), .val (.int p3), .val (.int p4), .val (.int p5), .val vz_2, .val vz_5, .val vz_9, .val vz_14, .val (.int (4 : Int32)), .val (.ref b308), .val (.int (Int32.ofNat ic)), .val (.int (p5 &&& (7 : Int32))), .val (.ref b349), .val ([vz_2, vz_5, vz_9, vz_14].getD ic Value.null), .val v391_0] [(.int (1 : Int32))])) _
            exact retN X389 hx (t := .boolean) Bd.returns (by simp) (hb hby at_249) hr
          · show Q0 n0 _ T389.heap _
            rw [e389]
            exact ⟨rfl, N389⟩
        · skip
          obtain ⟨cq395, kq395, q395a, q395b, q395c⟩ := isOf hZ rfl E_b349_371
          obtain ⟨_, _, ⟨T395, L395, k395, n395⟩, -, X395, hSq395, hgq395, ⟨Lc395, hQ395, l395, y395, z395, CQ395⟩, st395⟩ := X371.virtualBackS (s := s.setVm T357.vm) hx (y := (⟨"com/example/pourcode/pourcode/csv/CsvRecord", "get", "(I)Ljava/lang/String;"⟩ : MethodName)) (z := (⟨"com/example/pourcode/pourcode/csv/CsvRecord", "get", "(I)Ljava/lang/String;"⟩ : MethodName)) hown (mvT hZ (hw _ (List.mem_of_getElem? (i := 53) rfl))) (mvT hZ (hw _ (List.mem_of_getElem? (i := 54) rfl))) (notFace_of_selects (args := #[]) (mvT hZ (hw _ (List.mem_of_getElem? (i := 56) rfl)))) (mvT hZ (hw _ (List.mem_of_getElem? (i := 56) rfl))) (mvT hZ (hw _ (List.mem_of_getElem? (i := 55) rfl))) (by decide) (backOfSH (s := s) (vm0 := T357.vm) (W := 0) (rm8b l Z a0 hw [] b349 (Int32.ofNat ic) b308 (p5 &&& (7 : Int32)) k308 (4 : Int32) [vz_2, vz_5, vz_9, vz_14] T371.heap n0 Z371 F_values_b349_371 F_size_b349_371 V_b308_377 ((own_ix4 hic).1) ((own_ix4 hic).2) (hsz)) hZ (hw _ (List.mem_of_getElem? (i := 57) rfl)) (hw _ (List.mem_of_getElem? (i := 35) rfl)) (by decide) (by decide) hEL CR371.1) q395a q395c (g := (mkF m 183 #[.val (.int p1), .val (.int p2), .val (.int p3), .val (.int p4), .val (.int p5), .val vz_2, .val vz_5, .val vz_9, .val vz_14, .val (.int (4 : Int32)), .val (.ref b308), .val (.int (Int32.ofNat ic)), .val (.int (p5 &&& (7 : Int32))), .val (.ref b349), .unset, .unset] [(.int (Int32.ofNat ic)), (.ref b349)])) rfl (by rw [hml]; rfl) (Steps.refl _) (argsL := [(.int (Int32.ofNat ic))]) (rest := []) (lenOf pd_8 rfl) rfl (by show 2 * 0 + _ ≤ _; exact Nat.le_of_eq rfl) (hb hby at_183) (fun _ _ => ⟨rfl, rfl, (by decide : 12 + 2 ≤ _), (by decide : 37 + 4 ≤ _)⟩)
          dsimp only [Pt.U, Pt.locs, Pt.cells, Pt.slots] at X395 l395 y395 z395 st395 hQ395
          subst l395 y395 z395
          have hS395 := foldS hS357 mo371_0 hSq395 hgq395
          have hown := show T395.vm.findClass _ = some m.cls from (by rw [hSq395.1.alike.findClass]; exact hown)
          have hZ := State.Warmed39.trans (t := s.setVm T357.vm) hZ hSq395.1
          have CR395 := CR371.trans CQ395
          obtain ⟨az_395, tz_395, kz_395, rfl, N395q, KC395, P395_0, P395_1, P395_2⟩ := hQ395
          have N395 := Fr.app N371 N395q
          have Z395 : n0 ≤ T395.heap.size := Nat.le_trans Z371 KC395.1
          have mo395_0 := Nat.le_trans mo371_0 KC395.1
          have K395 : Keep h0 T395.heap [] := K371.trans KC395 all0
          have SCS_396 := own_stak SCS_372 KC395 ns0
          have SS_vz_2_2_397 := own_Skeep SS_vz_2_2_373 KC395
          have SS_vz_5_5_398 := own_Skeep SS_vz_5_5_374 KC395
          have SS_vz_9_9_399 := own_Skeep SS_vz_9_9_375 KC395
          have SS_vz_14_14_400 := own_Skeep SS_vz_14_14_376 KC395
          have V_b308_401 := V_b308_377.keep KC395 nin0
          have E_b349_371_402 := E_b349_371.keep KC395
          have A357_403 := A357_384.keep KC395
          have C357_404 := C357_385.keep KC395 nin0
          have F357_405 := F357_386.keep KC395 nin0
          have V357_406 := V357_387.keep KC395 nin0
          have F_values_b349_371_407 := F_values_b349_371.keep KC395 nin0
          have F_size_b349_371_408 := F_size_b349_371.keep KC395 nin0
          have E_az_395_395 : Exa Z T395.heap az_395 "java/lang/String" := P395_0
          have F_value_az_395_395 : Fld Z T395.heap az_395 "java/lang/String" "value" "[B" (.ref tz_395) := P395_1
          have V_tz_395_395 : Arv Z T395.heap tz_395 kz_395 .byte (0 : Int32) ((own_cs66.map fun c => c.toInt8.toInt32).map Value.int) (.int (0 : Int32)) := P395_2
          have pre395 : ∀ t, Steps p.tables e below (T395.setTop (mkF m 186 #[.val (.int p1), .val (.int p2), .val (.int p3), .val (.int p4), .val (.int p5), .val vz_2, .val vz_5, .val vz_9, .val vz_14, .val (.int (4 : Int32)), .val (.ref b308), .val (.int (Int32.ofNat ic)), .val (.int (p5 &&& (7 : Int32))), .val (.ref b349), .unset, .unset] [(.ref az_395)])) t → Steps p.tables e below (s₁.setTop (entryFrame m #[(.int p1), (.int p2), (.int p3), (.int p4), (.int p5)] maxLocals)) t := fun t kt => pre388 t (st395.trans kt)
          have pre409 : ∀ t, Steps p.tables e below (T395.setTop (mkF m 190 #[.val (.int p1), .val (.int p2), .val (.int p3), .val (.int p4), .val (.int p5), .val vz_2, .val vz_5, .val vz_9, .val vz_14, .val (.int (4 : Int32)), .val (.ref b308), .val (.int (Int32.ofNat ic)), .val (.int (p5 &&& (7 : Int32))), .val (.ref b349), .val (.ref az_395), .unset] [(.int (Int32.ofNat ic))])) t → Steps p.tables e below (s₁.setTop (entryFrame m #[(.int p1), (.int p2), (.int p3), (.int p4), (.int p5)] maxLocals)) t := by
            intro t kt
            refine pre395 t ?_
            show Steps p.tables e below (T395.setTop (mkF m 186 #[.val (.int p1), .val (.int p2), .val (.int p3), .val (.int p4), .val (.int p5), .val vz_2, .val vz_5, .val vz_9, .val vz_14, .val (.int (4 : Int32)), .val (.ref b308), .val (.int (Int32.ofNat ic)), .val (.int (p5 &&& (7 : Int32))), .val (.ref b349), .unset, .unset] [(.ref az_395)])) _
            refine XS.astore X395.here hx rfl (hb hby at_186) rfl rfl (l' := #[.val (.int p1), .val (.int p2), .val (.int p3), .val (.int p4), .val (.int p5), .val vz_2, .val vz_5, .val vz_9, .val vz_14, .val (.int (4 : Int32)), .val (.ref b308), .val (.int (Int32.ofNat ic)), .val (.int (p5 &&& (7 : Int32))), .val (.ref b349), .val (.ref az_395), .unset]) rfl ?_
            show Steps p.tables e below (T395.setTop (mkF m 188 #[.val (.int p1), .val (.int p2), .val (.int p3), .val (.int p4), .val (.int p5), .val vz_2, .val vz_5, .val vz_9, .val vz_14, .val (.int (4 : Int32)), .val (.ref b308), .val (.int (Int32.ofNat ic)), .val (.int (p5 &&& (7 : Int32))), .val (.ref b349), .val (.ref az_395), .unset] [])) _
            refine XS.iload X395.here hx rfl (hb hby at_188) rfl ?_
            exact kt
          obtain ⟨v410_0, hv410_0, pre410⟩ : ∃ (v410_0 : Value), v410_0 = (if (Int32.ofNat ic) = (0 : Int32) then vz_2 else (if (Int32.ofNat ic) = (1 : Int32) then vz_5 else (if (Int32.ofNat ic) = (2 : Int32) then vz_9 else vz_14))) ∧ ∀ t, Steps p.tables e below (T395.setTop (mkF m 230 #[.val (.int p1), .val (.int p2), .val (.int p3), .val (.int p4), .val (.int p5), .val vz_2, .val vz_5, .val vz_9, .val vz_14, .val (.int (4 : Int32)), .val (.ref b308), .val (.int (Int32.ofNat ic)), .val (.int (p5 &&& (7 : Int32))), .val (.ref b349), .val (.ref az_395), .val v410_0] [])) t → Steps p.tables e below (s₁.setTop (entryFrame m #[(.int p1), (.int p2), (.int p3), (.int p4), (.int p5)] maxLocals)) t := by
            refine ⟨_, rfl, ?_⟩
            intro t kt
            refine pre409 t ?_
            show Steps p.tables e below (T395.setTop (mkF m 190 #[.val (.int p1), .val (.int p2), .val (.int p3), .val (.int p4), .val (.int p5), .val vz_2, .val vz_5, .val vz_9, .val vz_14, .val (.int (4 : Int32)), .val (.ref b308), .val (.int (Int32.ofNat ic)), .val (.int (p5 &&& (7 : Int32))), .val (.ref b349), .val (.ref az_395), .unset] [(.int (Int32.ofNat ic))])) _
            by_cases hc190 : (Int32.ofNat ic) = (0 : Int32)
            · (try simp only [if_pos hc190] at kt)
              refine XS.ifNo X395.here hx rfl (hb hby at_190) rfl ((if0 _ _).trans (teq hc190).2) ?_
              show Steps p.tables e below (T395.setTop (mkF m 193 #[.val (.int p1), .val (.int p2), .val (.int p3), .val (.int p4), .val (.int p5), .val vz_2, .val vz_5, .val vz_9, .val vz_14, .val (.int (4 : Int32)), .val (.ref b308), .val (.int (Int32.ofNat ic)), .val (.int (p5 &&& (7 : Int32))), .val (.ref b349), .val (.ref az_395), .unset] [])) _
              refine XS.aload X395.here hx rfl (hb hby at_193) rfl R2_0 ?_
              show Steps p.tables e below (T395.setTop (mkF m 195 #[.val (.int p1), .val (.int p2), .val (.int p3), .val (.int p4), .val (.int p5), .val vz_2, .val vz_5, .val vz_9, .val vz_14, .val (.int (4 : Int32)), .val (.ref b308), .val (.int (Int32.ofNat ic)), .val (.int (p5 &&& (7 : Int32))), .val (.ref b349), .val (.ref az_395), .unset] [vz_2])) _
              refine XS.astore X395.here hx rfl (hb hby at_195) rfl R2_0 (l' := #[.val (.int p1), .val (.int p2), .val (.int p3), .val (.int p4), .val (.int p5), .val vz_2, .val vz_5, .val vz_9, .val vz_14, .val (.int (4 : Int32)), .val (.ref b308), .val (.int (Int32.ofNat ic)), .val (.int (p5 &&& (7 : Int32))), .val (.ref b349), .val (.ref az_395), .val vz_2]) (by rcases ref_cases R2_0 with q | ⟨_, q⟩ <;> rw [q] <;> rfl) ?_
              show Steps p.tables e below (T395.setTop (mkF m 197 #[.val (.int p1), .val (.int p2), .val (.int p3), .val (.int p4), .val (.int p5), .val vz_2, .val vz_5, .val vz_9, .val vz_14, .val (.int (4 : Int32)), .val (.ref b308), .val (.int (Int32.ofNat ic)), .val (.int (p5 &&& (7 : Int32))), .val (.ref b349), .val (.ref az_395), .val vz_2] [])) _
              refine XS.goto X395.here hx rfl (pc0 := 197) (pc' := 230) rfl (hb hby at_197) (by decide) (by decide) ?_
              exact kt
            · (try simp only [if_neg hc190] at kt)
              refine XS.ifYes X395.here hx rfl (pc0 := 190) (pc' := 200) rfl (hb hby at_190) rfl ((if0 _ _).trans (feq hc190).2) (by decide) (by decide) ?_
              show Steps p.tables e below (T395.setTop (mkF m 200 #[.val (.int p1), .val (.int p2), .val (.int p3), .val (.int p4), .val (.int p5), .val vz_2, .val vz_5, .val vz_9, .val vz_14, .val (.int (4 : Int32)), .val (.ref b308), .val (.int (Int32.ofNat ic)), .val (.int (p5 &&& (7 : Int32))), .val (.ref b349), .val (.ref az_395), .unset] [])) _
              refine XS.iload X395.here hx rfl (hb hby at_200) rfl ?_
              show Steps p.tables e below (T395.setTop (mkF m 202 #[.val (.int p1), .val (.int p2), .val (.int p3), .val (.int p4), .val (.int p5), .val vz_2, .val vz_5, .val vz_9, .val vz_14, .val (.int (4 : Int32)), .val (.ref b308), .val (.int (Int32.ofNat ic)), .val (.int (p5 &&& (7 : Int32))), .val (.ref b349), .val (.ref az_395), .unset] [(.int (Int32.ofNat ic))])) _
              refine XS.iconst X395.here hx rfl (hb hby at_202) ?_
              show Steps p.tables e below (T395.setTop (mkF m 203 #[.val (.int p1), .val (.int p2), .val (.int p3), .val (.int p4), .val (.int p5), .val vz_2, .val vz_5, .val vz_9, .val vz_14, .val (.int (4 : Int32)), .val (.ref b308), .val (.int (Int32.ofNat ic)), .val (.int (p5 &&& (7 : Int32))), .val (.ref b349), .val (.ref az_395), .unset] [(.int (1 : Int32)), (.int (Int32.ofNat ic))])) _
              by_cases hc203 : (Int32.ofNat ic) = (1 : Int32)
              · (try simp only [if_pos hc203] at kt)
                refine XS.icmpNo X395.here hx rfl (hb hby at_203) rfl (teq hc203).2 ?_
                show Steps p.tables e below (T395.setTop (mkF m 206 #[.val (.int p1), .val (.int p2), .val (.int p3), .val (.int p4), .val (.int p5), .val vz_2, .val vz_5, .val vz_9, .val vz_14, .val (.int (4 : Int32)), .val (.ref b308), .val (.int (Int32.ofNat ic)), .val (.int (p5 &&& (7 : Int32))), .val (.ref b349), .val (.ref az_395), .unset] [])) _
                refine XS.aload X395.here hx rfl (hb hby at_206) rfl R5_0 ?_
                show Steps p.tables e below (T395.setTop (mkF m 208 #[.val (.int p1), .val (.int p2), .val (.int p3), .val (.int p4), .val (.int p5), .val vz_2, .val vz_5, .val vz_9, .val vz_14, .val (.int (4 : Int32)), .val (.ref b308), .val (.int (Int32.ofNat ic)), .val (.int (p5 &&& (7 : Int32))), .val (.ref b349), .val (.ref az_395), .unset] [vz_5])) _
                refine XS.astore X395.here hx rfl (hb hby at_208) rfl R5_0 (l' := #[.val (.int p1), .val (.int p2), .val (.int p3), .val (.int p4), .val (.int p5), .val vz_2, .val vz_5, .val vz_9, .val vz_14, .val (.int (4 : Int32)), .val (.ref b308), .val (.int (Int32.ofNat ic)), .val (.int (p5 &&& (7 : Int32))), .val (.ref b349), .val (.ref az_395), .val vz_5]) (by rcases ref_cases R5_0 with q | ⟨_, q⟩ <;> rw [q] <;> rfl) ?_
                show Steps p.tables e below (T395.setTop (mkF m 210 #[.val (.int p1), .val (.int p2), .val (.int p3), .val (.int p4), .val (.int p5), .val vz_2, .val vz_5, .val vz_9, .val vz_14, .val (.int (4 : Int32)), .val (.ref b308), .val (.int (Int32.ofNat ic)), .val (.int (p5 &&& (7 : Int32))), .val (.ref b349), .val (.ref az_395), .val vz_5] [])) _
                refine XS.goto X395.here hx rfl (pc0 := 210) (pc' := 230) rfl (hb hby at_210) (by decide) (by decide) ?_
                exact kt
              · (try simp only [if_neg hc203] at kt)
                refine XS.icmpYes X395.here hx rfl (pc0 := 203) (pc' := 213) rfl (hb hby at_203) rfl (feq hc203).2 (by decide) (by decide) ?_
                show Steps p.tables e below (T395.setTop (mkF m 213 #[.val (.int p1), .val (.int p2), .val (.int p3), .val (.int p4), .val (.int p5), .val vz_2, .val vz_5, .val vz_9, .val vz_14, .val (.int (4 : Int32)), .val (.ref b308), .val (.int (Int32.ofNat ic)), .val (.int (p5 &&& (7 : Int32))), .val (.ref b349), .val (.ref az_395), .unset] [])) _
                refine XS.iload X395.here hx rfl (hb hby at_213) rfl ?_
                show Steps p.tables e below (T395.setTop (mkF m 215 #[.val (.int p1), .val (.int p2), .val (.int p3), .val (.int p4), .val (.int p5), .val vz_2, .val vz_5, .val vz_9, .val vz_14, .val (.int (4 : Int32)), .val (.ref b308), .val (.int (Int32.ofNat ic)), .val (.int (p5 &&& (7 : Int32))), .val (.ref b349), .val (.ref az_395), .unset] [(.int (Int32.ofNat ic))])) _
                refine XS.iconst X395.here hx rfl (hb hby at_215) ?_
                show Steps p.tables e below (T395.setTop (mkF m 216 #[.val (.int p1), .val (.int p2), .val (.int p3), .val (.int p4), .val (.int p5), .val vz_2, .val vz_5, .val vz_9, .val vz_14, .val (.int (4 : Int32)), .val (.ref b308), .val (.int (Int32.ofNat ic)), .val (.int (p5 &&& (7 : Int32))), .val (.ref b349), .val (.ref az_395), .unset] [(.int (2 : Int32)), (.int (Int32.ofNat ic))])) _
                by_cases hc216 : (Int32.ofNat ic) = (2 : Int32)
                · (try simp only [if_pos hc216] at kt)
                  refine XS.icmpNo X395.here hx rfl (hb hby at_216) rfl (teq hc216).2 ?_
                  show Steps p.tables e below (T395.setTop (mkF m 219 #[.val (.int p1), .val (.int p2), .val (.int p3), .val (.int p4), .val (.int p5), .val vz_2, .val vz_5, .val vz_9, .val vz_14, .val (.int (4 : Int32)), .val (.ref b308), .val (.int (Int32.ofNat ic)), .val (.int (p5 &&& (7 : Int32))), .val (.ref b349), .val (.ref az_395), .unset] [])) _
                  refine XS.aload X395.here hx rfl (hb hby at_219) rfl R9_0 ?_
                  show Steps p.tables e below (T395.setTop (mkF m 221 #[.val (.int p1), .val (.int p2), .val (.int p3), .val (.int p4), .val (.int p5), .val vz_2, .val vz_5, .val vz_9, .val vz_14, .val (.int (4 : Int32)), .val (.ref b308), .val (.int (Int32.ofNat ic)), .val (.int (p5 &&& (7 : Int32))), .val (.ref b349), .val (.ref az_395), .unset] [vz_9])) _
                  refine XS.astore X395.here hx rfl (hb hby at_221) rfl R9_0 (l' := #[.val (.int p1), .val (.int p2), .val (.int p3), .val (.int p4), .val (.int p5), .val vz_2, .val vz_5, .val vz_9, .val vz_14, .val (.int (4 : Int32)), .val (.ref b308), .val (.int (Int32.ofNat ic)), .val (.int (p5 &&& (7 : Int32))), .val (.ref b349), .val (.ref az_395), .val vz_9]) (by rcases ref_cases R9_0 with q | ⟨_, q⟩ <;> rw [q] <;> rfl) ?_
                  show Steps p.tables e below (T395.setTop (mkF m 223 #[.val (.int p1), .val (.int p2), .val (.int p3), .val (.int p4), .val (.int p5), .val vz_2, .val vz_5, .val vz_9, .val vz_14, .val (.int (4 : Int32)), .val (.ref b308), .val (.int (Int32.ofNat ic)), .val (.int (p5 &&& (7 : Int32))), .val (.ref b349), .val (.ref az_395), .val vz_9] [])) _
                  refine XS.goto X395.here hx rfl (pc0 := 223) (pc' := 230) rfl (hb hby at_223) (by decide) (by decide) ?_
                  exact kt
                · (try simp only [if_neg hc216] at kt)
                  refine XS.icmpYes X395.here hx rfl (pc0 := 216) (pc' := 226) rfl (hb hby at_216) rfl (feq hc216).2 (by decide) (by decide) ?_
                  show Steps p.tables e below (T395.setTop (mkF m 226 #[.val (.int p1), .val (.int p2), .val (.int p3), .val (.int p4), .val (.int p5), .val vz_2, .val vz_5, .val vz_9, .val vz_14, .val (.int (4 : Int32)), .val (.ref b308), .val (.int (Int32.ofNat ic)), .val (.int (p5 &&& (7 : Int32))), .val (.ref b349), .val (.ref az_395), .unset] [])) _
                  refine XS.aload X395.here hx rfl (hb hby at_226) rfl R14_0 ?_
                  show Steps p.tables e below (T395.setTop (mkF m 228 #[.val (.int p1), .val (.int p2), .val (.int p3), .val (.int p4), .val (.int p5), .val vz_2, .val vz_5, .val vz_9, .val vz_14, .val (.int (4 : Int32)), .val (.ref b308), .val (.int (Int32.ofNat ic)), .val (.int (p5 &&& (7 : Int32))), .val (.ref b349), .val (.ref az_395), .unset] [vz_14])) _
                  refine XS.astore X395.here hx rfl (hb hby at_228) rfl R14_0 (l' := #[.val (.int p1), .val (.int p2), .val (.int p3), .val (.int p4), .val (.int p5), .val vz_2, .val vz_5, .val vz_9, .val vz_14, .val (.int (4 : Int32)), .val (.ref b308), .val (.int (Int32.ofNat ic)), .val (.int (p5 &&& (7 : Int32))), .val (.ref b349), .val (.ref az_395), .val vz_14]) (by rcases ref_cases R14_0 with q | ⟨_, q⟩ <;> rw [q] <;> rfl) ?_
                  exact kt
          have hr_v410_0 : v410_0.isRef = true := by rw [hv410_0]; (repeat' split) <;> assumption
          have pre411 : ∀ t, Steps p.tables e below (T395.setTop (mkF m 252 #[.val (.int p1), .val (.int p2), .val (.int p3), .val (.int p4), .val (.int p5), .val vz_2, .val vz_5, .val vz_9, .val vz_14, .val (.int (4 : Int32)), .val (.ref b308), .val (.int (Int32.ofNat ic)), .val (.int (p5 &&& (7 : Int32))), .val (.ref b349), .val (.ref az_395), .val v410_0] [(.ref az_395)])) t → Steps p.tables e below (s₁.setTop (entryFrame m #[(.int p1), (.int p2), (.int p3), (.int p4), (.int p5)] maxLocals)) t := by
            intro t kt
            refine pre410 t ?_
            show Steps p.tables e below (T395.setTop (mkF m 230 #[.val (.int p1), .val (.int p2), .val (.int p3), .val (.int p4), .val (.int p5), .val vz_2, .val vz_5, .val vz_9, .val vz_14, .val (.int (4 : Int32)), .val (.ref b308), .val (.int (Int32.ofNat ic)), .val (.int (p5 &&& (7 : Int32))), .val (.ref b349), .val (.ref az_395), .val v410_0] [])) _
            refine XS.iload X395.here hx rfl (hb hby at_230) rfl ?_
            show Steps p.tables e below (T395.setTop (mkF m 232 #[.val (.int p1), .val (.int p2), .val (.int p3), .val (.int p4), .val (.int p5), .val vz_2, .val vz_5, .val vz_9, .val vz_14, .val (.int (4 : Int32)), .val (.ref b308), .val (.int (Int32.ofNat ic)), .val (.int (p5 &&& (7 : Int32))), .val (.ref b349), .val (.ref az_395), .val v410_0] [(.int (Int32.ofNat ic))])) _
            refine XS.iload X395.here hx rfl (hb hby at_232) rfl ?_
            show Steps p.tables e below (T395.setTop (mkF m 234 #[.val (.int p1), .val (.int p2), .val (.int p3), .val (.int p4), .val (.int p5), .val vz_2, .val vz_5, .val vz_9, .val vz_14, .val (.int (4 : Int32)), .val (.ref b308), .val (.int (Int32.ofNat ic)), .val (.int (p5 &&& (7 : Int32))), .val (.ref b349), .val (.ref az_395), .val v410_0] [(.int (p5 &&& (7 : Int32))), (.int (Int32.ofNat ic))])) _
            refine XS.icmpYes X395.here hx rfl (pc0 := 234) (pc' := 250) rfl (hb hby at_234) rfl (flt hsz).2.1 (by decide) (by decide) ?_
            show Steps p.tables e below (T395.setTop (mkF m 250 #[.val (.int p1), .val (.int p2), .val (.int p3), .val (.int p4), .val (.int p5), .val vz_2, .val vz_5, .val vz_9, .val vz_14, .val (.int (4 : Int32)), .val (.ref b308), .val (.int (Int32.ofNat ic)), .val (.int (p5 &&& (7 : Int32))), .val (.ref b349), .val (.ref az_395), .val v410_0] [])) _
            refine XS.aload X395.here hx rfl (hb hby at_250) rfl rfl ?_
            exact kt
          have pre412 : ∀ t, Steps p.tables e below (T395.setTop (mkF m 255 #[.val (.int p1), .val (.int p2), .val (.int p3), .val (.int p4), .val (.int p5), .val vz_2, .val vz_5, .val vz_9, .val vz_14, .val (.int (4 : Int32)), .val (.ref b308), .val (.int (Int32.ofNat ic)), .val (.int (p5 &&& (7 : Int32))), .val (.ref b349), .val (.ref az_395), .val v410_0] [])) t → Steps p.tables e below (s₁.setTop (entryFrame m #[(.int p1), (.int p2), (.int p3), (.int p4), (.int p5)] maxLocals)) t := fun t kt => pre411 t (XS.ifnullNo X395.here hx rfl (hb hby at_252) rfl kt)
          have pre413 : ∀ t, Steps p.tables e below (T395.setTop (mkF m 257 #[.val (.int p1), .val (.int p2), .val (.int p3), .val (.int p4), .val (.int p5), .val vz_2, .val vz_5, .val vz_9, .val vz_14, .val (.int (4 : Int32)), .val (.ref b308), .val (.int (Int32.ofNat ic)), .val (.int (p5 &&& (7 : Int32))), .val (.ref b349), .val (.ref az_395), .val v410_0] [(.ref az_395)])) t → Steps p.tables e below (s₁.setTop (entryFrame m #[(.int p1), (.int p2), (.int p3), (.int p4), (.int p5)] maxLocals)) t := by
            intro t kt
            refine pre412 t ?_
            show Steps p.tables e below (T395.setTop (mkF m 255 #[.val (.int p1), .val (.int p2), .val (.int p3), .val (.int p4), .val (.int p5), .val vz_2, .val vz_5, .val vz_9, .val vz_14, .val (.int (4 : Int32)), .val (.ref b308), .val (.int (Int32.ofNat ic)), .val (.int (p5 &&& (7 : Int32))), .val (.ref b349), .val (.ref az_395), .val v410_0] [])) _
            refine XS.aload X395.here hx rfl (hb hby at_255) rfl rfl ?_
            exact kt
          obtain ⟨cq414, kq414, q414a, q414b, q414c⟩ := isOf hZ rfl E_az_395_395
          obtain ⟨_, _, ⟨T414, L414, k414, n414⟩, -, X414, ⟨Lc414, hQ414, l414, y414, z414⟩, st414⟩ := X395.virtualBack hx (y := (⟨"java/lang/String", "isEmpty", "()Z"⟩ : MethodName)) (z := (⟨"java/lang/String", "isEmpty", "()Z"⟩ : MethodName)) hown (mvT hZ (hw _ (List.mem_of_getElem? (i := 67) rfl))) (mvT hZ (hw _ (List.mem_of_getElem? (i := 68) rfl))) (notFace_of_selects (args := #[]) (mvT hZ (hw _ (List.mem_of_getElem? (i := 70) rfl)))) (mvT hZ (hw _ (List.mem_of_getElem? (i := 70) rfl))) (mvT hZ (hw _ (List.mem_of_getElem? (i := 69) rfl))) (by decide) (backOf (W := 0) (rm11 l Z a0 hw [] az_395 tz_395 kz_395 ((own_cs66.map fun c => c.toInt8.toInt32).map Value.int) T395.heap n0 Z395 F_value_az_395_395 V_tz_395_395) hZ (hw _ (List.mem_of_getElem? (i := 71) rfl)) (hw _ (List.mem_of_getElem? (i := 6) rfl)) (by decide) (by decide)) q414a q414c (g := (mkF m 257 #[.val (.int p1), .val (.int p2), .val (.int p3), .val (.int p4), .val (.int p5), .val vz_2, .val vz_5, .val vz_9, .val vz_14, .val (.int (4 : Int32)), .val (.ref b308), .val (.int (Int32.ofNat ic)), .val (.int (p5 &&& (7 : Int32))), .val (.ref b349), .val (.ref az_395), .val v410_0] [(.ref az_395)])) rfl (by rw [hml]; rfl) (Steps.refl _) (argsL := []) (rest := []) (lenOf pd_9 rfl) rfl (by show 2 * 0 + _ ≤ _; exact Nat.le_of_eq rfl) (hb hby at_257) (fun _ _ => ⟨rfl, rfl, (by decide : 14 + 0 ≤ _), (by decide : 41 + 0 ≤ _)⟩)
          dsimp only [Pt.U, Pt.locs, Pt.cells, Pt.slots] at X414 l414 y414 z414 st414 hQ414
          subst l414 y414 z414
          obtain ⟨rfl, N414q, e414⟩ := hQ414
          have N414 := Fr.app N395 N414q
          have pre414 : ∀ t, Steps p.tables e below (T414.setTop (mkF m 260 #[.val (.int p1), .val (.int p2), .val (.int p3), .val (.int p4), .val (.int p5), .val vz_2, .val vz_5, .val vz_9, .val vz_14, .val (.int (4 : Int32)), .val (.ref b308), .val (.int (Int32.ofNat ic)), .val (.int (p5 &&& (7 : Int32))), .val (.ref b349), .val (.ref az_395), .val v410_0] [(.int (1 : Int32))])) t → Steps p.tables e below (s₁.setTop (entryFrame m #[(.int p1), (.int p2), (.int p3), (.int p4), (.int p5)] maxLocals)) t := fun t kt => pre413 t (st414.trans kt)
          have pre415 : ∀ t, Steps p.tables e below (T414.setTop (mkF m 268 #[.val (.int p1), .val (.int p2), .val (.int p3), .val (.int p4), .val (.int p5), .val vz_2, .val vz_5, .val vz_9, .val vz_14, .val (.int (4 : Int32)), .val (.ref b308), .val (.int (Int32.ofNat ic)), .val (.int (p5 &&& (7 : Int32))), .val (.ref b349), .val (.ref az_395), .val v410_0] [(.int (1 : Int32))])) t → Steps p.tables e below (s₁.setTop (entryFrame m #[(.int p1), (.int p2), (.int p3), (.int p4), (.int p5)] maxLocals)) t := by
            intro t kt
            refine pre414 t ?_
            show Steps p.tables e below (T414.setTop (mkF m 260 #[.val (.int p1), .val (.int p2), .val (.int p3), .val (.int p4), .val (.int p5), .val vz_2, .val vz_5, .val vz_9, .val vz_14, .val (.int (4 : Int32)), .val (.ref b308), .val (.int (Int32.ofNat ic)), .val (.int (p5 &&& (7 : Int32))), .val (.ref b349), .val (.ref az_395), .val v410_0] [(.int (1 : Int32))])) _
            refine XS.ifNo X414.here hx rfl (hb hby at_260) rfl ((if0 _ _).trans (feq (by decide)).1) ?_
            show Steps p.tables e below (T414.setTop (mkF m 263 #[.val (.int p1), .val (.int p2), .val (.int p3), .val (.int p4), .val (.int p5), .val vz_2, .val vz_5, .val vz_9, .val vz_14, .val (.int (4 : Int32)), .val (.ref b308), .val (.int (Int32.ofNat ic)), .val (.int (p5 &&& (7 : Int32))), .val (.ref b349), .val (.ref az_395), .val v410_0] [])) _
            refine XS.iconst X414.here hx rfl (hb hby at_263) ?_
            show Steps p.tables e below (T414.setTop (mkF m 264 #[.val (.int p1), .val (.int p2), .val (.int p3), .val (.int p4), .val (.int p5), .val vz_2, .val vz_5, .val vz_9, .val vz_14, .val (.int (4 : Int32)), .val (.ref b308), .val (.int (Int32.ofNat ic)), .val (.int (p5 &&& (7 : Int32))), .val (.ref b349), .val (.ref az_395), .val v410_0] [(.int (1 : Int32))])) _
            refine XS.goto X414.here hx rfl (pc0 := 264) (pc' := 268) rfl (hb hby at_264) (by decide) (by decide) ?_
            exact kt
          obtain ⟨fs, hr, hrun, hended, hEnd⟩ := X414.leaveW (s := s) (vm₁ := T395.vm) hS395 (by rw [e414]; exact (Nat.le_refl T395.heap.size)) (v := some (.int (1 : Int32))) (fun h => by rw [Bd.returns] at h; cases h)
          refine ⟨_, _, pre415 _ ?_, hrun, hended, _, _, rfl, ?_, hEnd.1, hEnd.2.1, hEnd.2.2.1, hEnd.2.2.2.mono (by decide) (by decide)⟩
          · show Steps p.tables e below (T414.setTop (mkF m 268 #[.val (.int p1), .val (.int p2), .val (.int p3), .val (.int p4), .val (.int p5), .val vz_2, .val vz_5, .val vz_9, .val vz_14, .val (.int (4 : Int32)), .val (.ref b308), .val (.int (Int32.ofNat ic)), .val (.int (p5 &&& (7 : Int32))), .val (.ref b349), .val (.ref az_395), .val v410_0] [(.int (1 : Int32))])) _
            exact retN X414 hx (t := .boolean) Bd.returns (by simp) (hb hby at_268) hr
          · show Q0 n0 _ T414.heap _
            rw [e414]
            exact ⟨rfl, N414⟩
set_option maxRecDepth 65536 in
set_option maxHeartbeats 40000000 in
theorem comes_1 {Post : Tables → Env → Array Value → State → Outcome → State → Prop} (hpost : ∀ tb e args s v u, (limb_1_1.after args s (.returned v) u = true ∧ limb_1_2.after args s (.returned v) u = true ∧ True) → ReturnedEndW s (.returned v) u (Jvm.fieldLocs frame_1_writes args s ++ Jvm.arrayLocs frame_1_arrays args s ++ Jvm.staticLocs frame_1_statics s) 32 2240 → Post tb e args s (.returned v) u) :
    ArmFor flags0 classFile x code maxLocals ret World_1 tables_1 room_1 Calls_1 rest_1 Pre_1 Post := by
  intro l hfl _ _ p e ha hc hk s m args below hf hA hF happ hP
  obtain ⟨hcalls, hrest, hpre⟩ := hP
  obtain ⟨-, -, -, hnamed, -, -, -, hat⟩ := (Spec.applies_iff hf).mp happ
  obtain ⟨hg, hn⟩ := and_e (Cond.before_iff.mp (show (Jvm.Cond.and given_1 narrow_1).before args s = true from hpre))
  obtain ⟨g1, g2⟩ := and_e hg
  obtain ⟨g3, g4⟩ := and_e g2
  obtain ⟨g5, g6⟩ := and_e g4
  obtain ⟨g7, g8⟩ := and_e g6
  obtain ⟨g9, g10⟩ := and_e g8
  obtain ⟨w0, w1, w2, w3, w4, rfl⟩ : ∃ w0 w1 w2 w3 w4 : Value, args = #[w0, w1, w2, w3, w4] := by
    have hs : args.size = 5 := by simpa [Cond.value, given_1] using g1
    obtain ⟨L⟩ := args
    match L, hs with
    | [w0, w1, w2, w3, w4], _ => exact ⟨w0, w1, w2, w3, w4, rfl⟩
  have hw := fun d (hd : d ∈ tables_1) => atoms_spec (ws := Jvm.Cond.code x code maxLocals ret :: tables_1) hat d (List.mem_cons_of_mem _ hd)
  have hfit : Fit s := fun {y c} hc i hi => by
    obtain ⟨ha, rfl⟩ := Array.getElem?_eq_some_iff.mp hc
    have q := List.all_eq_true.mp ((Array.all_eq_true_iff_forall_mem.mp hF) _ (Array.getElem_mem ha)) i (List.mem_range.mpr hi)
    simpa [Array.getElem?_eq_getElem hi] using q
  obtain ⟨hsets, hown0⟩ := atoms_of _ (rest_1_c_eq ▸ (show rest_1_c.before _ s = true from hrest))
  have hr0 := Cond.before_iff.mp hown0
  obtain ⟨i0, ei0⟩ := is_v g3
  obtain rfl : w0 = (.int i0) := Option.some.inj ei0
  obtain ⟨i1, ei1⟩ := is_v g5
  obtain rfl : w1 = (.int i1) := Option.some.inj ei1
  obtain ⟨i2, ei2⟩ := is_v g7
  obtain rfl : w2 = (.int i2) := Option.some.inj ei2
  obtain ⟨i3, ei3⟩ := is_v g9
  obtain rfl : w3 = (.int i3) := Option.some.inj ei3
  obtain ⟨i4, ei4⟩ := is_v g10
  obtain rfl : w4 = (.int i4) := Option.some.inj ei4
  have nz := not_v (Cond.before_iff.mp (hsets _ (List.mem_of_getElem? (i := 2) rfl)))
  obtain ⟨cz, ecz⟩ := is_v (Cond.before_iff.mp (hsets _ (List.mem_of_getElem? (i := 1) rfl)))
  have SCS := Sta.start ecz (Or.inl (hsets _ (List.mem_of_getElem? (i := 0) rfl)))
  have hCS : ¬ (cz = (0 : Int32)) := gotF (Cond.eq_ints ecz (Term.int_eval (0))) nz
  have hCH0 : CHv s EL s.vm s.heap := CHv.start (own_EW hw) (fun p hp => hcalls.1 p hp) (hsets _ (List.mem_of_getElem? (i := 2) rfl)) (hw _ (List.mem_of_getElem? (i := 18) rfl)) (hw _ (List.mem_of_getElem? (i := 14) rfl))
  obtain ⟨n, o, h1, h2, h3, _, L, rfl, ⟨rfl, N⟩, hq⟩ := rm0 l s _ hw tables_1 i0 i1 i2 i3 i4 cz s.heap s.heap.size (Nat.le_refl _) SCS hCS p e ha hc hk s m _ below hf ((Spec.applies_iff_loose hf).mp happ).1 ⟨rfl, State.Warmed39.refl s, rfl, hCH0⟩ trivial
  refine ⟨n, _, h1, h2, h3, hpost _ _ _ _ _ _ ⟨Cond.after_iff.mpr rfl, Cond.after_iff.mpr (eq_i res_at (Term.int_eval (1)) rfl), trivial⟩ ⟨hq.1, hq.2.1, hq.2.2.1, (hq.2.2.2.sift fun y hy => Or.inr (N y hy)).mono (by decide) (by decide)⟩⟩
theorem main_1_1 : Claimed_1_1 := comes_1 fun _ _ _ _ _ _ h hF => ⟨h.1, hF⟩
theorem main_1_2 : Claimed_1_2 := comes_1 fun _ _ _ _ _ _ h hF => ⟨h.2.1, hF⟩
end Jvm.Pilot.@@N@@
namespace Jvm.Pilot.@@N@@
open Jvm Jvm.ClassFile Sem Op Lib Jvm.Free Jvm.Stand Jvm.Pilot.@@N@@.Jvm.D
/-! MADE BY PROGRAM (witnessworld.py) out of the Statement's table words and the real class files: 19 classes; the members and pool entries that the words name. The judged class is class 1, her method 2. -/
namespace start1
open Jvm.ClassFile
def u (s : String) : CpInfo := .utf8 (stringToUtf16 s)
/-- a pool by its gaps: so many unusable entries, then the entry; so many at the end -/
def gap : Nat → List CpInfo → List CpInfo
  | 0, r => r
  | n + 1, r => .unusable :: gap n r
def poolList (es : List (Nat × CpInfo)) (last : Nat) : List CpInfo := es.foldr (fun e r => gap e.1 (e.2 :: r)) (gap last [])
def pool (es : List (Nat × CpInfo)) (last : Nat) : Array CpInfo := ⟨poolList es last⟩
def fileOf (pool : Array CpInfo) (this : Nat) (attrs : Array Attribute := #[]) (ms : Array MethodInfo := #[]) (fl : Nat := 33) (sup : Nat := 0) (ifs : Array Nat := #[]) (fds : Array FieldInfo := #[]) : ClassFile where
  minorVersion := 0
  majorVersion := 65
  constantPool := pool
  accessFlags := fl
  thisClass := this
  superClass := sup
  interfaces := ifs
  fields := fds
  methods := ms
  attributes := attrs
def plain (name : String) (sup : Option ClassId) : Class where
  name := name
  kind := .ordinary
  loader := none
  accessFlags := 33
  super := sup
  interfaces := #[]
  cf := none
  fields := #[]
  methods := #[]
  instanceTypes := #[]
  staticTypes := #[]
  resolved := #[]
  callSites := []
  init := .initialized
  statics := none
  mirror := none

def pool0 : Array CpInfo := pool [(5, u "<init>"), (0, u "()V"), (1, .class_ 10), (1, u "java/lang/Object")] 113

def k0c0 : Code := { maxStack := 0, maxLocals := 1, code := object_method_1_code, exceptionTable := #[], attributes := #[] }
def k0m0 : Method := { name := "<init>", desc := "()V", sig := { parameters := [], returnType := none }, accessFlags := 1, code := some k0c0 }
/-- java/lang/Object -/
def k0 : Class := { plain "java/lang/Object" none with
  accessFlags := 33
  interfaces := #[]
  cf := some (fileOf pool0 8 #[] #[{ accessFlags := 1, nameIndex := 5, descriptorIndex := 6, attributes := #[] }] 33 0 #[] #[])
  fields := #[]
  methods := #[k0m0]
  instanceTypes := #[]
  staticTypes := #[]
  resolved := Array.replicate 124 none
  statics := none }

def pool1 : Array CpInfo := pool [(2, .class_ 4), (1, u "java/lang/Object"), (0, u "<init>"), (0, u "()V"), (0, .methodref 8 9), (0, .class_ 10), (0, .nameAndType 11 12), (0, u "java/lang/String"), (0, u "valueOf"), (0, u "(C)Ljava/lang/String;"), (0, .methodref 14 15), (0, .class_ 16), (0, .nameAndType 17 18), (0, u "com/example/pourcode/pourcode/csv/CsvRecordGetPinLaw"), (0, u "drawn"), (0, u "(III)Ljava/lang/String;"), (0, .integer 2147483647), (0, .class_ 21), (0, u "com/example/pourcode/pourcode/csv/CsvRecord"), (0, .string 23), (0, u "f"), (0, .methodref 20 25), (0, .nameAndType 5 26), (0, u "(Ljava/lang/String;I[Ljava/lang/String;I[B)V"), (0, .methodref 20 28), (0, .nameAndType 29 30), (0, u "get"), (0, u "(I)Ljava/lang/String;"), (0, .methodref 8 32), (0, .nameAndType 33 34), (0, u "isEmpty"), (0, u "()Z"), (3, u "law"), (0, u "(IIIII)Z")] 4

def k1m0 : Method := { name := "<init>", desc := "()V", sig := { parameters := [], returnType := none }, accessFlags := 2, code := none }
def k1c1 : Code := { maxStack := 2, maxLocals := 3, code := method_2_code, exceptionTable := #[], attributes := #[] }
def k1m1 : Method := { name := "drawn", desc := "(III)Ljava/lang/String;", sig := { parameters := [.int, .int, .int], returnType := some (.object "java/lang/String") }, accessFlags := 10, code := some k1c1 }
def k1c2 : Code := { maxStack := 7, maxLocals := 16, code := code, exceptionTable := #[], attributes := #[] }
def k1m2 : Method := { name := "law", desc := "(IIIII)Z", sig := { parameters := [.int, .int, .int, .int, .int], returnType := some .boolean }, accessFlags := 9, code := some k1c2 }
/-- com/example/pourcode/pourcode/csv/CsvRecordGetPinLaw -/
def k1 : Class := { plain "com/example/pourcode/pourcode/csv/CsvRecordGetPinLaw" (some 0) with
  accessFlags := 49
  interfaces := #[]
  cf := some (fileOf pool1 14 #[] #[{ accessFlags := 2, nameIndex := 5, descriptorIndex := 6, attributes := #[] }, { accessFlags := 10, nameIndex := 17, descriptorIndex := 18, attributes := #[] }, { accessFlags := 9, nameIndex := 38, descriptorIndex := 39, attributes := #[] }] 49 2 #[] #[])
  fields := #[]
  methods := #[k1m0, k1m1, k1m2]
  instanceTypes := #[]
  staticTypes := #[]
  resolved := Array.replicate 44 none
  statics := none }

def pool2 : Array CpInfo := pool [(1, .class_ 2), (0, u "java/io/Serializable"), (0, .class_ 4), (0, u "java/lang/Object")] 2

/-- java/io/Serializable -/
def k2 : Class := { plain "java/io/Serializable" (some 0) with
  accessFlags := 1537
  interfaces := #[]
  cf := some (fileOf pool2 1 #[] #[] 1537 3 #[] #[])
  fields := #[]
  methods := #[]
  instanceTypes := #[]
  staticTypes := #[]
  resolved := Array.replicate 7 none
  statics := none }

def pool3 : Array CpInfo := pool [(1, .class_ 2), (0, u "java/lang/Comparable"), (0, .class_ 4), (0, u "java/lang/Object")] 7

/-- java/lang/Comparable -/
def k3 : Class := { plain "java/lang/Comparable" (some 0) with
  accessFlags := 1537
  interfaces := #[]
  cf := some (fileOf pool3 1 #[] #[] 1537 3 #[] #[])
  fields := #[]
  methods := #[]
  instanceTypes := #[]
  staticTypes := #[]
  resolved := Array.replicate 12 none
  statics := none }

def pool4 : Array CpInfo := pool [(2, .class_ 4), (1, u "java/lang/CharSequence"), (42, .class_ 48), (0, u "java/lang/CharSequence$1CodePointIterator"), (10, .class_ 60), (0, u "java/lang/CharSequence$1CharIterator"), (5, .class_ 67), (0, u "java/lang/Object")] 63

/-- java/lang/CharSequence -/
def k4 : Class := { plain "java/lang/CharSequence" (some 0) with
  accessFlags := 1537
  interfaces := #[]
  cf := some (fileOf pool4 2 #[.nestMembers #[47, 59]] #[] 1537 66 #[] #[])
  fields := #[]
  methods := #[]
  instanceTypes := #[]
  staticTypes := #[]
  resolved := Array.replicate 131 none
  statics := none }

def pool5 : Array CpInfo := pool [(1, .class_ 2), (0, u "java/lang/constant/Constable"), (0, .class_ 4), (0, u "java/lang/Object")] 6

/-- java/lang/constant/Constable -/
def k5 : Class := { plain "java/lang/constant/Constable" (some 0) with
  accessFlags := 1537
  interfaces := #[]
  cf := some (fileOf pool5 1 #[] #[] 1537 3 #[] #[])
  fields := #[]
  methods := #[]
  instanceTypes := #[]
  staticTypes := #[]
  resolved := Array.replicate 11 none
  statics := none }

def pool6 : Array CpInfo := pool [(1, .class_ 2), (0, u "java/lang/constant/ConstantDesc"), (0, .class_ 4), (0, u "java/lang/Object")] 32

/-- java/lang/constant/ConstantDesc -/
def k6 : Class := { plain "java/lang/constant/ConstantDesc" (some 0) with
  accessFlags := 1537
  interfaces := #[]
  cf := some (fileOf pool6 1 #[] #[] 1537 3 #[] #[])
  fields := #[]
  methods := #[]
  instanceTypes := #[]
  staticTypes := #[]
  resolved := Array.replicate 37 none
  statics := none }

def pool7 : Array CpInfo := pool [(1, .methodref 2 3), (0, .class_ 4), (0, .nameAndType 5 6), (0, u "java/lang/Object"), (0, u "<init>"), (0, u "()V"), (2, .fieldref 10 11), (0, .class_ 12), (0, .nameAndType 13 14), (0, u "java/lang/String"), (0, u "value"), (0, u "[B"), (0, .fieldref 10 16), (0, .nameAndType 17 18), (0, u "coder"), (0, u "B"), (2, u "hash"), (0, u "I"), (2, u "hashIsZero"), (0, u "Z"), (11, .fieldref 10 39), (0, .nameAndType 40 26), (0, u "COMPACT_STRINGS"), (12, u "toBytes"), (53, .class_ 109), (1, u "java/lang/StringLatin1"), (32, u "()Z"), (66, .methodref 10 210), (0, .nameAndType 5 211), (0, u "([BB)V"), (157, u "(C)Z"), (205, .class_ 576), (0, u "java/lang/CharSequence"), (22, u "CASE_INSENSITIVE_ORDER"), (0, u "Ljava/util/Comparator;"), (91, u "isEmpty"), (89, u "valueOf"), (0, u "(C)Ljava/lang/String;"), (231, .methodref 107 1016), (0, .nameAndType 1017 369), (0, u "canEncode"), (0, .methodref 107 1019), (0, .nameAndType 53 1020), (0, u "(C)[B"), (80, u "serialPersistentFields"), (0, u "[Ljava/io/ObjectStreamField;"), (0, .class_ 1104), (0, u "java/lang/String$CaseInsensitiveComparator"), (1, .class_ 1107), (0, u "java/io/Serializable"), (0, .class_ 1109), (0, u "java/lang/Comparable"), (0, .class_ 1111), (0, u "java/lang/constant/Constable"), (0, .class_ 1113), (0, u "java/lang/constant/ConstantDesc"), (2, u "serialVersionUID"), (0, u "J"), (3, u "REPL"), (0, u "C"), (2, u "LATIN1"), (1, u "UTF16")] 323

def k7m0 : Method := { name := "<init>", desc := "()V", sig := { parameters := [], returnType := none }, accessFlags := 1, code := none }
def k7c1 : Code := { maxStack := 1, maxLocals := 1, code := jdk_42_method_55_code, exceptionTable := #[], attributes := #[] }
def k7m1 : Method := { name := "isEmpty", desc := "()Z", sig := { parameters := [], returnType := some .boolean }, accessFlags := 1, code := some k7c1 }
def k7c2 : Code := { maxStack := 4, maxLocals := 1, code := jdk_42_method_139_code, exceptionTable := #[], attributes := #[] }
def k7m2 : Method := { name := "valueOf", desc := "(C)Ljava/lang/String;", sig := { parameters := [.char], returnType := some (.object "java/lang/String") }, accessFlags := 9, code := some k7c2 }
def k7c3 : Code := { maxStack := 2, maxLocals := 3, code := jdk_42_method_151_code, exceptionTable := #[], attributes := #[] }
def k7m3 : Method := { name := "<init>", desc := "([BB)V", sig := { parameters := [(.array .byte), .byte], returnType := none }, accessFlags := 0, code := some k7c3 }
/-- java/lang/String -/
def k7 : Class := { plain "java/lang/String" (some 0) with
  accessFlags := 49
  interfaces := #[2, 3, 4, 5, 6]
  cf := some (fileOf pool7 10 #[.nestMembers #[1103]] #[{ accessFlags := 1, nameIndex := 5, descriptorIndex := 6, attributes := #[] }, { accessFlags := 1, nameIndex := 692, descriptorIndex := 142, attributes := #[] }, { accessFlags := 9, nameIndex := 782, descriptorIndex := 783, attributes := #[] }, { accessFlags := 0, nameIndex := 5, descriptorIndex := 211, attributes := #[] }] 49 2 #[1106, 1108, 575, 1110, 1112] #[{ accessFlags := 18, nameIndex := 13, descriptorIndex := 14, attributes := #[] }, { accessFlags := 18, nameIndex := 17, descriptorIndex := 18, attributes := #[] }, { accessFlags := 2, nameIndex := 21, descriptorIndex := 22, attributes := #[] }, { accessFlags := 2, nameIndex := 25, descriptorIndex := 26, attributes := #[] }, { accessFlags := 26, nameIndex := 1116, descriptorIndex := 1117, attributes := #[] }, { accessFlags := 24, nameIndex := 40, descriptorIndex := 26, attributes := #[] }, { accessFlags := 26, nameIndex := 1101, descriptorIndex := 1102, attributes := #[] }, { accessFlags := 26, nameIndex := 1121, descriptorIndex := 1122, attributes := #[] }, { accessFlags := 25, nameIndex := 599, descriptorIndex := 600, attributes := #[] }, { accessFlags := 24, nameIndex := 1125, descriptorIndex := 18, attributes := #[] }, { accessFlags := 24, nameIndex := 1127, descriptorIndex := 18, attributes := #[] }])
  fields := #[{ name := "value", type := (.array .byte), accessFlags := 18, slot := 0, constantValue := 0 }, { name := "coder", type := .byte, accessFlags := 18, slot := 1, constantValue := 0 }, { name := "hash", type := .int, accessFlags := 2, slot := 2, constantValue := 0 }, { name := "hashIsZero", type := .boolean, accessFlags := 2, slot := 3, constantValue := 0 }, { name := "serialVersionUID", type := .long, accessFlags := 26, slot := 0, constantValue := 0 }, { name := "COMPACT_STRINGS", type := .boolean, accessFlags := 24, slot := 1, constantValue := 0 }, { name := "serialPersistentFields", type := (.array (.object "java/io/ObjectStreamField")), accessFlags := 26, slot := 2, constantValue := 0 }, { name := "REPL", type := .char, accessFlags := 26, slot := 3, constantValue := 0 }, { name := "CASE_INSENSITIVE_ORDER", type := (.object "java/util/Comparator"), accessFlags := 25, slot := 4, constantValue := 0 }, { name := "LATIN1", type := .byte, accessFlags := 24, slot := 5, constantValue := 0 }, { name := "UTF16", type := .byte, accessFlags := 24, slot := 6, constantValue := 0 }]
  methods := #[k7m0, k7m1, k7m2, k7m3]
  instanceTypes := #[(.array .byte), .byte, .int, .boolean]
  staticTypes := #[.long, .boolean, (.array (.object "java/io/ObjectStreamField")), .char, (.object "java/util/Comparator"), .byte, .byte]
  resolved := Array.replicate 1451 none
  statics := some 0 }

def pool8 : Array CpInfo := pool [(4, .class_ 6), (1, u "java/lang/Object"), (0, u "<init>"), (0, u "()V"), (5, .class_ 16), (1, u "java/lang/StringLatin1"), (73, u "canEncode"), (14, u "(C)Z"), (15, u "$assertionsDisabled"), (0, u "Z"), (98, .class_ 223), (1, u "java/lang/StringLatin1$LinesSpliterator"), (156, u "toBytes"), (1, u "(C)[B"), (7, .class_ 391), (0, u "java/lang/StringLatin1$CharsSpliterator")] 3

def k8m0 : Method := { name := "<init>", desc := "()V", sig := { parameters := [], returnType := none }, accessFlags := 0, code := none }
def k8c1 : Code := { maxStack := 2, maxLocals := 1, code := jdk_43_method_3_code, exceptionTable := #[], attributes := #[] }
def k8m1 : Method := { name := "canEncode", desc := "(C)Z", sig := { parameters := [.char], returnType := some .boolean }, accessFlags := 9, code := some k8c1 }
def k8c2 : Code := { maxStack := 4, maxLocals := 1, code := jdk_43_method_46_code, exceptionTable := #[], attributes := #[] }
def k8m2 : Method := { name := "toBytes", desc := "(C)[B", sig := { parameters := [.char], returnType := some (.array .byte) }, accessFlags := 9, code := some k8c2 }
/-- java/lang/StringLatin1 -/
def k8 : Class := { plain "java/lang/StringLatin1" (some 0) with
  accessFlags := 48
  interfaces := #[]
  cf := some (fileOf pool8 14 #[.nestMembers #[390, 221]] #[{ accessFlags := 0, nameIndex := 7, descriptorIndex := 8, attributes := #[] }, { accessFlags := 9, nameIndex := 90, descriptorIndex := 105, attributes := #[] }, { accessFlags := 9, nameIndex := 380, descriptorIndex := 382, attributes := #[] }] 48 4 #[] #[{ accessFlags := 4120, nameIndex := 121, descriptorIndex := 122, attributes := #[] }])
  fields := #[{ name := "$assertionsDisabled", type := .boolean, accessFlags := 4120, slot := 0, constantValue := 0 }]
  methods := #[k8m0, k8m1, k8m2]
  instanceTypes := #[]
  staticTypes := #[.boolean]
  resolved := Array.replicate 395 none
  statics := none }

def pool9 : Array CpInfo := pool [(1, .methodref 2 3), (0, .class_ 4), (0, .nameAndType 5 6), (0, u "java/lang/Object"), (0, u "<init>"), (0, u "()V"), (0, .fieldref 8 9), (0, .class_ 10), (0, .nameAndType 11 12), (0, u "com/example/pourcode/pourcode/csv/CsvRecord"), (0, u "file"), (0, u "Ljava/lang/String;"), (0, .fieldref 8 14), (0, .nameAndType 15 16), (0, u "line"), (0, u "I"), (0, .fieldref 8 18), (0, .nameAndType 19 20), (0, u "values"), (0, u "[Ljava/lang/String;"), (0, .fieldref 8 22), (0, .nameAndType 23 16), (0, u "size"), (0, .fieldref 8 25), (0, .nameAndType 26 27), (0, u "text"), (0, u "[B"), (0, .methodref 29 30), (0, .class_ 31), (0, .nameAndType 32 33), (0, u "java/util/Objects"), (0, u "checkIndex"), (0, u "(II)I"), (0, .string 35), (0, u ""), (7, u "get"), (0, u "(I)Ljava/lang/String;"), (11, u "(Ljava/lang/String;I[Ljava/lang/String;I[B)V")] 15

def k9c0 : Code := { maxStack := 2, maxLocals := 6, code := prog_13_method_1_code, exceptionTable := #[], attributes := #[] }
def k9m0 : Method := { name := "<init>", desc := "(Ljava/lang/String;I[Ljava/lang/String;I[B)V", sig := { parameters := [(.object "java/lang/String"), .int, (.array (.object "java/lang/String")), .int, (.array .byte)], returnType := none }, accessFlags := 0, code := some k9c0 }
def k9c1 : Code := { maxStack := 2, maxLocals := 2, code := prog_13_method_4_code, exceptionTable := #[], attributes := #[] }
def k9m1 : Method := { name := "get", desc := "(I)Ljava/lang/String;", sig := { parameters := [.int], returnType := some (.object "java/lang/String") }, accessFlags := 1, code := some k9c1 }
/-- com/example/pourcode/pourcode/csv/CsvRecord -/
def k9 : Class := { plain "com/example/pourcode/pourcode/csv/CsvRecord" (some 0) with
  accessFlags := 49
  interfaces := #[]
  cf := some (fileOf pool9 8 #[] #[{ accessFlags := 0, nameIndex := 5, descriptorIndex := 56, attributes := #[] }, { accessFlags := 1, nameIndex := 43, descriptorIndex := 44, attributes := #[] }] 49 2 #[] #[{ accessFlags := 18, nameIndex := 11, descriptorIndex := 12, attributes := #[] }, { accessFlags := 18, nameIndex := 15, descriptorIndex := 16, attributes := #[] }, { accessFlags := 18, nameIndex := 19, descriptorIndex := 20, attributes := #[] }, { accessFlags := 18, nameIndex := 23, descriptorIndex := 16, attributes := #[] }, { accessFlags := 18, nameIndex := 26, descriptorIndex := 27, attributes := #[] }])
  fields := #[{ name := "file", type := (.object "java/lang/String"), accessFlags := 18, slot := 0, constantValue := 0 }, { name := "line", type := .int, accessFlags := 18, slot := 1, constantValue := 0 }, { name := "values", type := (.array (.object "java/lang/String")), accessFlags := 18, slot := 2, constantValue := 0 }, { name := "size", type := .int, accessFlags := 18, slot := 3, constantValue := 0 }, { name := "text", type := (.array .byte), accessFlags := 18, slot := 4, constantValue := 0 }]
  methods := #[k9m0, k9m1]
  instanceTypes := #[(.object "java/lang/String"), .int, (.array (.object "java/lang/String")), .int, (.array .byte)]
  staticTypes := #[]
  resolved := Array.replicate 72 none
  statics := none }

def pool10 : Array CpInfo := pool [(2, .class_ 4), (1, u "java/lang/Object"), (0, u "<init>"), (0, u "()V"), (35, .class_ 44), (1, u "java/util/Objects"), (60, .methodref 106 107), (0, .class_ 108), (0, .nameAndType 109 110), (0, u "jdk/internal/util/Preconditions"), (0, u "checkIndex"), (0, u "(IILjava/util/function/BiFunction;)I"), (60, u "(II)I")] 12

def k10m0 : Method := { name := "<init>", desc := "()V", sig := { parameters := [], returnType := none }, accessFlags := 2, code := none }
def k10c1 : Code := { maxStack := 3, maxLocals := 2, code := jdk_31_method_17_code, exceptionTable := #[], attributes := #[] }
def k10m1 : Method := { name := "checkIndex", desc := "(II)I", sig := { parameters := [.int, .int], returnType := some .int }, accessFlags := 9, code := some k10c1 }
/-- java/util/Objects -/
def k10 : Class := { plain "java/util/Objects" (some 0) with
  accessFlags := 49
  interfaces := #[]
  cf := some (fileOf pool10 42 #[] #[{ accessFlags := 2, nameIndex := 5, descriptorIndex := 6, attributes := #[] }, { accessFlags := 9, nameIndex := 109, descriptorIndex := 171, attributes := #[] }] 49 2 #[] #[])
  fields := #[]
  methods := #[k10m0, k10m1]
  instanceTypes := #[]
  staticTypes := #[]
  resolved := Array.replicate 184 none
  statics := none }

def pool11 : Array CpInfo := pool [(2, .class_ 4), (1, u "java/lang/Object"), (0, u "<init>"), (0, u "()V"), (17, .class_ 26), (1, u "jdk/internal/util/Preconditions"), (6, u "checkIndex"), (21, .class_ 56), (0, u "jdk/internal/util/Preconditions$4"), (57, .class_ 115), (0, u "jdk/internal/util/Preconditions$1"), (7, u "SIOOBE_FORMATTER"), (0, u "Ljava/util/function/BiFunction;"), (0, .class_ 126), (0, u "jdk/internal/util/Preconditions$2"), (3, u "AIOOBE_FORMATTER"), (0, .class_ 132), (0, u "jdk/internal/util/Preconditions$3"), (3, u "IOOBE_FORMATTER"), (41, u "(IILjava/util/function/BiFunction;)I")] 15

def k11m0 : Method := { name := "<init>", desc := "()V", sig := { parameters := [], returnType := none }, accessFlags := 1, code := none }
def k11c1 : Code := { maxStack := 3, maxLocals := 3, code := jdk_41_method_11_code, exceptionTable := #[], attributes := #[] }
def k11m1 : Method := { name := "checkIndex", desc := "(IILjava/util/function/BiFunction;)I", sig := { parameters := [.int, .int, (.object "java/util/function/BiFunction")], returnType := some .int }, accessFlags := 9, code := some k11c1 }
/-- jdk/internal/util/Preconditions -/
def k11 : Class := { plain "jdk/internal/util/Preconditions" (some 0) with
  accessFlags := 33
  interfaces := #[]
  cf := some (fileOf pool11 24 #[.nestMembers #[55, 131, 125, 114]] #[{ accessFlags := 1, nameIndex := 5, descriptorIndex := 6, attributes := #[] }, { accessFlags := 9, nameIndex := 33, descriptorIndex := 178, attributes := #[] }] 33 2 #[] #[{ accessFlags := 25, nameIndex := 123, descriptorIndex := 124, attributes := #[] }, { accessFlags := 25, nameIndex := 130, descriptorIndex := 124, attributes := #[] }, { accessFlags := 25, nameIndex := 136, descriptorIndex := 124, attributes := #[] }])
  fields := #[{ name := "SIOOBE_FORMATTER", type := (.object "java/util/function/BiFunction"), accessFlags := 25, slot := 0, constantValue := 0 }, { name := "AIOOBE_FORMATTER", type := (.object "java/util/function/BiFunction"), accessFlags := 25, slot := 1, constantValue := 0 }, { name := "IOOBE_FORMATTER", type := (.object "java/util/function/BiFunction"), accessFlags := 25, slot := 2, constantValue := 0 }]
  methods := #[k11m0, k11m1]
  instanceTypes := #[]
  staticTypes := #[(.object "java/util/function/BiFunction"), (.object "java/util/function/BiFunction"), (.object "java/util/function/BiFunction")]
  resolved := Array.replicate 194 none
  statics := some 1 }

def pool12 : Array CpInfo := pool [(9, u "<init>"), (6, .class_ 18), (1, u "java/lang/Object"), (0, u "()V"), (1, .class_ 23), (1, u "jdk/internal/util/ArraysSupport"), (0, u "LOG2_ARRAY_LONG_INDEX_SCALE"), (0, u "I"), (2, u "U"), (0, u "Ljdk/internal/misc/Unsafe;"), (8, u "BIG_ENDIAN"), (0, u "Z"), (8, u "LOG2_BYTE_BIT_SIZE"), (4, u "LOG2_ARRAY_INT_INDEX_SCALE"), (54, u "JLA"), (0, u "Ljdk/internal/access/JavaLangAccess;"), (11, u "LOG2_ARRAY_BOOLEAN_INDEX_SCALE"), (9, u "LOG2_ARRAY_BYTE_INDEX_SCALE"), (5, u "LOG2_ARRAY_CHAR_INDEX_SCALE"), (5, u "LOG2_ARRAY_SHORT_INDEX_SCALE"), (18, u "LOG2_ARRAY_FLOAT_INDEX_SCALE"), (24, u "LOG2_ARRAY_DOUBLE_INDEX_SCALE"), (89, u "T_BOOLEAN"), (2, u "T_CHAR"), (1, u "T_FLOAT"), (1, u "T_DOUBLE"), (1, u "T_BYTE"), (1, u "T_SHORT"), (1, u "T_INT"), (1, u "T_LONG"), (1, u "SOFT_MAX_ARRAY_LENGTH")] 83

def k12m0 : Method := { name := "<init>", desc := "()V", sig := { parameters := [], returnType := none }, accessFlags := 2, code := none }
/-- jdk/internal/util/ArraysSupport -/
def k12 : Class := { plain "jdk/internal/util/ArraysSupport" (some 0) with
  accessFlags := 33
  interfaces := #[]
  cf := some (fileOf pool12 21 #[] #[{ accessFlags := 2, nameIndex := 9, descriptorIndex := 19, attributes := #[] }] 33 16 #[] #[{ accessFlags := 24, nameIndex := 28, descriptorIndex := 29, attributes := #[] }, { accessFlags := 26, nameIndex := 38, descriptorIndex := 39, attributes := #[] }, { accessFlags := 25, nameIndex := 121, descriptorIndex := 25, attributes := #[] }, { accessFlags := 25, nameIndex := 131, descriptorIndex := 25, attributes := #[] }, { accessFlags := 25, nameIndex := 137, descriptorIndex := 25, attributes := #[] }, { accessFlags := 25, nameIndex := 143, descriptorIndex := 25, attributes := #[] }, { accessFlags := 25, nameIndex := 53, descriptorIndex := 25, attributes := #[] }, { accessFlags := 25, nameIndex := 24, descriptorIndex := 25, attributes := #[] }, { accessFlags := 25, nameIndex := 162, descriptorIndex := 25, attributes := #[] }, { accessFlags := 25, nameIndex := 187, descriptorIndex := 25, attributes := #[] }, { accessFlags := 26, nameIndex := 48, descriptorIndex := 25, attributes := #[] }, { accessFlags := 25, nameIndex := 277, descriptorIndex := 25, attributes := #[] }, { accessFlags := 25, nameIndex := 280, descriptorIndex := 25, attributes := #[] }, { accessFlags := 25, nameIndex := 282, descriptorIndex := 25, attributes := #[] }, { accessFlags := 25, nameIndex := 284, descriptorIndex := 25, attributes := #[] }, { accessFlags := 25, nameIndex := 286, descriptorIndex := 25, attributes := #[] }, { accessFlags := 25, nameIndex := 288, descriptorIndex := 25, attributes := #[] }, { accessFlags := 25, nameIndex := 290, descriptorIndex := 25, attributes := #[] }, { accessFlags := 25, nameIndex := 292, descriptorIndex := 25, attributes := #[] }, { accessFlags := 26, nameIndex := 108, descriptorIndex := 109, attributes := #[] }, { accessFlags := 25, nameIndex := 294, descriptorIndex := 25, attributes := #[] }])
  fields := #[{ name := "U", type := (.object "jdk/internal/misc/Unsafe"), accessFlags := 24, slot := 0, constantValue := 0 }, { name := "BIG_ENDIAN", type := .boolean, accessFlags := 26, slot := 1, constantValue := 0 }, { name := "LOG2_ARRAY_BOOLEAN_INDEX_SCALE", type := .int, accessFlags := 25, slot := 2, constantValue := 0 }, { name := "LOG2_ARRAY_BYTE_INDEX_SCALE", type := .int, accessFlags := 25, slot := 3, constantValue := 0 }, { name := "LOG2_ARRAY_CHAR_INDEX_SCALE", type := .int, accessFlags := 25, slot := 4, constantValue := 0 }, { name := "LOG2_ARRAY_SHORT_INDEX_SCALE", type := .int, accessFlags := 25, slot := 5, constantValue := 0 }, { name := "LOG2_ARRAY_INT_INDEX_SCALE", type := .int, accessFlags := 25, slot := 6, constantValue := 0 }, { name := "LOG2_ARRAY_LONG_INDEX_SCALE", type := .int, accessFlags := 25, slot := 7, constantValue := 0 }, { name := "LOG2_ARRAY_FLOAT_INDEX_SCALE", type := .int, accessFlags := 25, slot := 8, constantValue := 0 }, { name := "LOG2_ARRAY_DOUBLE_INDEX_SCALE", type := .int, accessFlags := 25, slot := 9, constantValue := 0 }, { name := "LOG2_BYTE_BIT_SIZE", type := .int, accessFlags := 26, slot := 10, constantValue := 0 }, { name := "T_BOOLEAN", type := .int, accessFlags := 25, slot := 11, constantValue := 0 }, { name := "T_CHAR", type := .int, accessFlags := 25, slot := 12, constantValue := 0 }, { name := "T_FLOAT", type := .int, accessFlags := 25, slot := 13, constantValue := 0 }, { name := "T_DOUBLE", type := .int, accessFlags := 25, slot := 14, constantValue := 0 }, { name := "T_BYTE", type := .int, accessFlags := 25, slot := 15, constantValue := 0 }, { name := "T_SHORT", type := .int, accessFlags := 25, slot := 16, constantValue := 0 }, { name := "T_INT", type := .int, accessFlags := 25, slot := 17, constantValue := 0 }, { name := "T_LONG", type := .int, accessFlags := 25, slot := 18, constantValue := 0 }, { name := "JLA", type := (.object "jdk/internal/access/JavaLangAccess"), accessFlags := 26, slot := 19, constantValue := 0 }, { name := "SOFT_MAX_ARRAY_LENGTH", type := .int, accessFlags := 25, slot := 20, constantValue := 0 }]
  methods := #[k12m0]
  instanceTypes := #[]
  staticTypes := #[(.object "jdk/internal/misc/Unsafe"), .boolean, .int, .int, .int, .int, .int, .int, .int, .int, .int, .int, .int, .int, .int, .int, .int, .int, .int, (.object "jdk/internal/access/JavaLangAccess"), .int]
  resolved := Array.replicate 378 none
  statics := none }

def pool13 : Array CpInfo := pool [(1, u "java/lang/Cloneable"), (0, .class_ 1), (0, u "java/lang/Object"), (0, .class_ 3)] 3

/-- java/lang/Cloneable -/
def k13 : Class := { plain "java/lang/Cloneable" (some 0) with
  accessFlags := 1537
  interfaces := #[]
  cf := some (fileOf pool13 2 #[] #[] 1537 4 #[] #[])
  fields := #[]
  methods := #[]
  instanceTypes := #[]
  staticTypes := #[]
  resolved := Array.replicate 8 none
  statics := none }

/-- the primitive byte -/
def k14 : Class := { plain "byte" none with kind := .primitive 'B', accessFlags := 0x411 }
/-- [B -/
def k15 : Class := { plain "[B" (some 0) with kind := .array 14 .byte, interfaces := #[13, 2], accessFlags := 1041 }

/-- the primitive int -/
def k16 : Class := { plain "int" none with kind := .primitive 'I', accessFlags := 0x411 }
/-- [I -/
def k17 : Class := { plain "[I" (some 0) with kind := .array 16 .int, interfaces := #[13, 2], accessFlags := 1041 }

/-- [Ljava/lang/String; -/
def k18 : Class := { plain "[Ljava/lang/String;" (some 0) with kind := .array 7 (.object "java/lang/String"), interfaces := #[13, 2], accessFlags := 1041 }

def heap : Heap := #[{ cls := 7, slots := #[.long 0, .int 1, .null, .int 0, .null, .int 0, .int 0], vm := .statics 7 },
  { cls := 11, slots := #[.null, .null, .null], vm := .statics 11 }]
def classes : Array Class := #[k0, k1, k2, k3, k4, k5, k6, k7, k8, k9, k10, k11, k12, k13, k14, k15, k16, k17, k18]
def interned : List (Array UInt16 × Addr) := []
def slotsUsed : Nat := 10
def theMethod : MethodId := ⟨1, 2⟩
def args0 : Array Value := #[.int 5, .int 6, .int 7, .int 8, .int 9]
def aboutOver (below : List Frame) : State where
  vm := { classes := classes, interned := interned.toArray }
  heap := heap
  slotsUsed := slotsUsed
  threads := #[{ frames := .invoking theMethod args0 :: below }]
def below0 : List Frame := [.native { method := ⟨0, 0⟩, args := #[] }]
def about1 : State := aboutOver below0
def p0 : Program := .bare "" "" ""
def e0 : Env := launch0.env 0 0 0
theorem w_frames : about1.frames = Frame.invoking theMethod args0 :: below0 := rfl
set_option maxRecDepth 65536 in
theorem w_args : argsFit about1.vm theMethod args0 = true := by decide +kernel
set_option maxRecDepth 65536 in
theorem w_heap : heapFits about1 = true := by decide +kernel
set_option maxRecDepth 65536 in
theorem w_runnable : about1.curStatus? = some .runnable := by decide +kernel
set_option maxRecDepth 65536 in
theorem w_alone : about1.alone = true := by decide +kernel
set_option maxRecDepth 65536 in
theorem w_named : about1.methodNamed? x = some theMethod := by decide +kernel
set_option maxRecDepth 65536 in
theorem w_hears : about1.hears theMethod below0 = true := by decide +kernel
set_option maxRecDepth 65536 in
theorem w_ripe : about1.ripe theMethod args0 below0 = true := by decide +kernel
theorem w_running : about1.status = .running := rfl
set_option maxRecDepth 65536 in
theorem w_room : about1.hasRoom e0.platform room_1 = true :=
  launch0.hasRoom_least _ room_1 (by decide +kernel) (by decide +kernel) (by decide +kernel) (by decide +kernel) (by decide +kernel) (by decide +kernel)
theorem allAtoms_all (ts : List Jvm.Cond) (a : Array Jvm.Value) (st : Jvm.State) : (allAtoms ts).before a st = ts.all (fun c => c.before a st) := by
  induction ts with
  | nil => rfl
  | cons c t ih =>
    show (Jvm.Cond.and c (allAtoms t)).before a st = _
    rw [Jvm.Cond.before_and, ih, List.all_cons]
def words1 : List Jvm.Cond := Jvm.Cond.code x code maxLocals ret :: tables_1
/-- a 'code' word, met by the world's own term for the bytes: nothing is compared byte by byte -/
theorem code_word {y : MethodName} {bytes : ByteArray} {mx : Nat} {rt : Option FieldType} {a : Array Value} {s : State} {m : MethodId} {meth : Method} {c : Code} (h1 : s.methodNamed? y = some m) (h2 : s.vm.method? m = some meth) (h3 : meth.code = some c) (h4 : c.code = bytes)
    (h5 : (c.maxLocals == mx && c.exceptionTable.isEmpty && decide (c.maxStack ≤ mostOperands) && decide (meth.sig.returnType = rt) && !meth.locks && decide (parseMethodDescriptor y.desc = some meth.sig)) = true) : (Jvm.Cond.code y bytes mx rt).before a s = true := by
  simp only [Bool.and_eq_true, beq_iff_eq, Bool.not_eq_true', decide_eq_true_eq] at h5
  obtain ⟨⟨⟨⟨⟨g1, g2⟩, g3⟩, g4⟩, g5⟩, g6⟩ := h5
  simp [Cond.before, Cond.holds, Cond.value, h1, h2, h3, h4, g1, g2, g3, g4, g5, g6]
def isCode : Jvm.Cond → Bool
  | .code _ _ _ _ => true
  | _ => false
theorem all_split {L : List Jvm.Cond} {P : Jvm.Cond → Bool} (h1 : L.all (fun c => isCode c || P c) = true) (h2 : ∀ c ∈ L.filter isCode, P c = true) : L.all P = true := by
  refine List.all_eq_true.mpr fun c hc => ?_
  have h := List.all_eq_true.mp h1 c hc
  rcases Bool.eq_false_or_eq_true (isCode c) with hi | hi
  · exact h2 c (List.mem_filter.mpr ⟨hc, hi⟩)
  · simpa [hi] using h
set_option maxRecDepth 65536 in
theorem w_c0 : (Jvm.Cond.code x code maxLocals ret).before args0 about1 = true := code_word (m := ⟨1, 2⟩) (meth := k1m2) (c := k1c2) (by decide +kernel) rfl rfl rfl (by decide +kernel)
set_option maxRecDepth 65536 in
theorem w_c1 : (Jvm.Cond.code ({ cls := "com/example/pourcode/pourcode/csv/CsvRecordGetPinLaw", name := "drawn", desc := "(III)Ljava/lang/String;" } : Jvm.MethodName) method_2_code (3 : Nat) (Option.some (Jvm.ClassFile.FieldType.object "java/lang/String"))).before args0 about1 = true := code_word (m := ⟨1, 1⟩) (meth := k1m1) (c := k1c1) (by decide +kernel) rfl rfl rfl (by decide +kernel)
set_option maxRecDepth 65536 in
theorem w_c2 : (Jvm.Cond.code ({ cls := "java/lang/String", name := "valueOf", desc := "(C)Ljava/lang/String;" } : Jvm.MethodName) jdk_42_method_139_code (1 : Nat) (Option.some (Jvm.ClassFile.FieldType.object "java/lang/String"))).before args0 about1 = true := code_word (m := ⟨7, 2⟩) (meth := k7m2) (c := k7c2) (by decide +kernel) rfl rfl rfl (by decide +kernel)
set_option maxRecDepth 65536 in
theorem w_c3 : (Jvm.Cond.code ({ cls := "java/lang/StringLatin1", name := "canEncode", desc := "(C)Z" } : Jvm.MethodName) jdk_43_method_3_code (1 : Nat) (Option.some Jvm.ClassFile.FieldType.boolean)).before args0 about1 = true := code_word (m := ⟨8, 1⟩) (meth := k8m1) (c := k8c1) (by decide +kernel) rfl rfl rfl (by decide +kernel)
set_option maxRecDepth 65536 in
theorem w_c4 : (Jvm.Cond.code ({ cls := "java/lang/StringLatin1", name := "toBytes", desc := "(C)[B" } : Jvm.MethodName) jdk_43_method_46_code (1 : Nat) (Option.some (Jvm.ClassFile.FieldType.array Jvm.ClassFile.FieldType.byte))).before args0 about1 = true := code_word (m := ⟨8, 2⟩) (meth := k8m2) (c := k8c2) (by decide +kernel) rfl rfl rfl (by decide +kernel)
set_option maxRecDepth 65536 in
theorem w_c5 : (Jvm.Cond.code ({ cls := "java/lang/String", name := "<init>", desc := "([BB)V" } : Jvm.MethodName) jdk_42_method_151_code (3 : Nat) (Option.none : Option Jvm.ClassFile.FieldType)).before args0 about1 = true := code_word (m := ⟨7, 3⟩) (meth := k7m3) (c := k7c3) (by decide +kernel) rfl rfl rfl (by decide +kernel)
set_option maxRecDepth 65536 in
theorem w_c6 : (Jvm.Cond.code ({ cls := "java/lang/Object", name := "<init>", desc := "()V" } : Jvm.MethodName) object_method_1_code (1 : Nat) (Option.none : Option Jvm.ClassFile.FieldType)).before args0 about1 = true := code_word (m := ⟨0, 0⟩) (meth := k0m0) (c := k0c0) (by decide +kernel) rfl rfl rfl (by decide +kernel)
set_option maxRecDepth 65536 in
theorem w_c7 : (Jvm.Cond.code ({ cls := "com/example/pourcode/pourcode/csv/CsvRecord", name := "<init>", desc := "(Ljava/lang/String;I[Ljava/lang/String;I[B)V" } : Jvm.MethodName) prog_13_method_1_code (6 : Nat) (Option.none : Option Jvm.ClassFile.FieldType)).before args0 about1 = true := code_word (m := ⟨9, 0⟩) (meth := k9m0) (c := k9c0) (by decide +kernel) rfl rfl rfl (by decide +kernel)
set_option maxRecDepth 65536 in
theorem w_c8 : (Jvm.Cond.code ({ cls := "com/example/pourcode/pourcode/csv/CsvRecord", name := "get", desc := "(I)Ljava/lang/String;" } : Jvm.MethodName) prog_13_method_4_code (2 : Nat) (Option.some (Jvm.ClassFile.FieldType.object "java/lang/String"))).before args0 about1 = true := code_word (m := ⟨9, 1⟩) (meth := k9m1) (c := k9c1) (by decide +kernel) rfl rfl rfl (by decide +kernel)
set_option maxRecDepth 65536 in
theorem w_c9 : (Jvm.Cond.code ({ cls := "java/util/Objects", name := "checkIndex", desc := "(II)I" } : Jvm.MethodName) jdk_31_method_17_code (2 : Nat) (Option.some Jvm.ClassFile.FieldType.int)).before args0 about1 = true := code_word (m := ⟨10, 1⟩) (meth := k10m1) (c := k10c1) (by decide +kernel) rfl rfl rfl (by decide +kernel)
set_option maxRecDepth 65536 in
theorem w_c10 : (Jvm.Cond.code ({ cls := "jdk/internal/util/Preconditions", name := "checkIndex", desc := "(IILjava/util/function/BiFunction;)I" } : Jvm.MethodName) jdk_41_method_11_code (3 : Nat) (Option.some Jvm.ClassFile.FieldType.int)).before args0 about1 = true := code_word (m := ⟨11, 1⟩) (meth := k11m1) (c := k11c1) (by decide +kernel) rfl rfl rfl (by decide +kernel)
set_option maxRecDepth 65536 in
theorem w_c11 : (Jvm.Cond.code ({ cls := "java/lang/String", name := "isEmpty", desc := "()Z" } : Jvm.MethodName) jdk_42_method_55_code (1 : Nat) (Option.some Jvm.ClassFile.FieldType.boolean)).before args0 about1 = true := code_word (m := ⟨7, 1⟩) (meth := k7m1) (c := k7c1) (by decide +kernel) rfl rfl rfl (by decide +kernel)
def codes1 : List Jvm.Cond := [Jvm.Cond.code x code maxLocals ret, Jvm.Cond.code ({ cls := "com/example/pourcode/pourcode/csv/CsvRecordGetPinLaw", name := "drawn", desc := "(III)Ljava/lang/String;" } : Jvm.MethodName) method_2_code (3 : Nat) (Option.some (Jvm.ClassFile.FieldType.object "java/lang/String")), Jvm.Cond.code ({ cls := "java/lang/String", name := "valueOf", desc := "(C)Ljava/lang/String;" } : Jvm.MethodName) jdk_42_method_139_code (1 : Nat) (Option.some (Jvm.ClassFile.FieldType.object "java/lang/String")), Jvm.Cond.code ({ cls := "java/lang/StringLatin1", name := "canEncode", desc := "(C)Z" } : Jvm.MethodName) jdk_43_method_3_code (1 : Nat) (Option.some Jvm.ClassFile.FieldType.boolean), Jvm.Cond.code ({ cls := "java/lang/StringLatin1", name := "toBytes", desc := "(C)[B" } : Jvm.MethodName) jdk_43_method_46_code (1 : Nat) (Option.some (Jvm.ClassFile.FieldType.array Jvm.ClassFile.FieldType.byte)), Jvm.Cond.code ({ cls := "java/lang/String", name := "<init>", desc := "([BB)V" } : Jvm.MethodName) jdk_42_method_151_code (3 : Nat) (Option.none : Option Jvm.ClassFile.FieldType), Jvm.Cond.code ({ cls := "java/lang/Object", name := "<init>", desc := "()V" } : Jvm.MethodName) object_method_1_code (1 : Nat) (Option.none : Option Jvm.ClassFile.FieldType), Jvm.Cond.code ({ cls := "com/example/pourcode/pourcode/csv/CsvRecord", name := "<init>", desc := "(Ljava/lang/String;I[Ljava/lang/String;I[B)V" } : Jvm.MethodName) prog_13_method_1_code (6 : Nat) (Option.none : Option Jvm.ClassFile.FieldType), Jvm.Cond.code ({ cls := "com/example/pourcode/pourcode/csv/CsvRecord", name := "get", desc := "(I)Ljava/lang/String;" } : Jvm.MethodName) prog_13_method_4_code (2 : Nat) (Option.some (Jvm.ClassFile.FieldType.object "java/lang/String")), Jvm.Cond.code ({ cls := "java/util/Objects", name := "checkIndex", desc := "(II)I" } : Jvm.MethodName) jdk_31_method_17_code (2 : Nat) (Option.some Jvm.ClassFile.FieldType.int), Jvm.Cond.code ({ cls := "jdk/internal/util/Preconditions", name := "checkIndex", desc := "(IILjava/util/function/BiFunction;)I" } : Jvm.MethodName) jdk_41_method_11_code (3 : Nat) (Option.some Jvm.ClassFile.FieldType.int), Jvm.Cond.code ({ cls := "java/lang/String", name := "isEmpty", desc := "()Z" } : Jvm.MethodName) jdk_42_method_55_code (1 : Nat) (Option.some Jvm.ClassFile.FieldType.boolean)]
set_option maxRecDepth 65536 in
theorem codes_eq : words1.filter isCode = codes1 := rfl
theorem w_codes : ∀ c ∈ words1.filter isCode, c.before args0 about1 = true := by
  rw [codes_eq]
  intro c hc
  simp only [codes1, List.mem_cons, List.not_mem_nil, or_false] at hc
  rcases hc with rfl | rfl | rfl | rfl | rfl | rfl | rfl | rfl | rfl | rfl | rfl | rfl
  · exact w_c0
  · exact w_c1
  · exact w_c2
  · exact w_c3
  · exact w_c4
  · exact w_c5
  · exact w_c6
  · exact w_c7
  · exact w_c8
  · exact w_c9
  · exact w_c10
  · exact w_c11
set_option maxRecDepth 65536 in
theorem w_t1 : (words1.take 24).all (fun c => isCode c || c.before args0 about1) = true := by decide +kernel
set_option maxRecDepth 65536 in
theorem w_t2 : ((words1.drop 24).take 24).all (fun c => isCode c || c.before args0 about1) = true := by decide +kernel
set_option maxRecDepth 65536 in
theorem w_t3 : (((words1.drop 24).drop 24).take 24).all (fun c => isCode c || c.before args0 about1) = true := by decide +kernel
set_option maxRecDepth 65536 in
theorem w_t4 : (((words1.drop 24).drop 24).drop 24).all (fun c => isCode c || c.before args0 about1) = true := by decide +kernel
theorem w_tables : (allAtoms (Jvm.Cond.code x code maxLocals ret :: tables_1)).before args0 about1 = true := by
  rw [allAtoms_all]
  show words1.all (fun c => c.before args0 about1) = true
  refine all_split ?_ w_codes
  rw [← List.take_append_drop 24 words1, List.all_append, w_t1, ← List.take_append_drop 24 (words1.drop 24), List.all_append, w_t2, ← List.take_append_drop 24 ((words1.drop 24).drop 24), List.all_append, w_t3, w_t4]
  rfl
set_option maxRecDepth 65536 in
theorem w_rest : rest_1_c.before args0 about1 = true := by decide +kernel
set_option maxRecDepth 65536 in
theorem w_case : (Jvm.Cond.and given_1 narrow_1).before args0 about1 = true := by decide +kernel
set_option maxRecDepth 65536 in
theorem w_consts : constsHeld consts_1 about1 := Jvm.Lit.constsHeldB_iff.mp (by decide +kernel)
theorem w_applies : (headSpec (Jvm.Cond.code x code maxLocals ret :: tables_1) room_1).applies x e0.platform about1 = true :=
  (Spec.applies_iff w_frames).mpr ⟨w_running, w_runnable, w_alone, w_named, w_hears, w_ripe, w_room, w_tables⟩
theorem atStart : AtStart classFile x code maxLocals ret World_1 tables_1 room_1 Calls_1 rest_1 Pre_1 launch0 p0 e0 about1 theMethod args0 below0 :=
  ⟨lists_1, trivial, launch0.admits_env _ _ _, launch0.least_env, fairChoices_fair.cas, fairChoices_fair.clock, w_frames, w_args, w_heap, w_applies, ⟨w_consts, trivial⟩, w_rest, w_case⟩
end start1
theorem witness_1 : WitnessClaimed_1 := ⟨start1.p0, start1.e0, start1.about1, start1.theMethod, start1.args0, start1.below0, start1.atStart⟩
end Jvm.Pilot.@@N@@
